import PyProof.Rows.All
import Wide.All
import OpenK.AllK
import Wide.FinOn
import PySem.Challenge.RW_tl0040_01
open PySem PySem.W PyProof.Rows
set_option Elab.async false
set_option linter.all false
local macro_rules | `(tactic| k_mem) => `(tactic| k_extra "TL mem")
local macro_rules | `(tactic| k_ne) => `(tactic| k_extra "TL ne0")
local macro_rules | `(tactic| kmk_sum) => `(tactic| k_extra "TL size")
local macro_rules | `(tactic| k_all) => `(tactic| k_extra "TL all")
local macro_rules
  | `(tactic| walk_at "call builtin:max cons nil") => `(tactic| k_extra "TL@ call builtin:max cons nil")
  | `(tactic| walk_at "call builtin:min cons nil") => `(tactic| k_extra "TL@ call builtin:min cons nil")
  | `(tactic| walk_at "execs cons") => `(tactic| k_extra "TL@ execs cons")
  | `(tactic| walk_at "execs nil") => `(tactic| k_extra "TL@ execs nil")
  | `(tactic| walk_at "call ref") => `(tactic| k_extra "TL@ call ref")
  | `(tactic| walk_at "call builtin:len cons nil") => `(tactic| k_extra "TL@ call builtin:len cons nil")
  | `(tactic| walk_at "compareOp Eq ref ref") => `(tactic| k_extra "TL@ compareOp Eq ref ref")
  | `(tactic| walk_at "pyIter ref") => `(tactic| k_extra "TL@ pyIter ref")
  | `(tactic| walk_at "TurnEnd next") => `(tactic| k_extra "TL@ TurnEnd next")
  | `(tactic| walk_at "subscriptTail Name Name ref int") => `(tactic| k_extra "TL@ subscriptTail Name Name ref int")
  | `(tactic| walk_at "call builtin:list.append cons nil") => `(tactic| k_extra "TL@ call builtin:list.append cons nil")
  | `(tactic| walk_at "call ref nil") => `(tactic| k_extra "TL@ call ref nil")
  | `(tactic| walk_at "call ref cons nil") => `(tactic| k_extra "TL@ call ref cons nil")
  | `(tactic| walk_at "exec For Name Name cons nil") => `(tactic| k_extra "TL@ exec For Name Name cons nil")
  | `(tactic| walk_at "exec For Name Tuple cons nil") => `(tactic| k_extra "TL@ exec For Name Tuple cons nil")
  | `(tactic| walk_at "subscriptTail Name BinOp ref int") => `(tactic| k_extra "TL@ subscriptTail Name BinOp ref int")
  | `(tactic| walk_at "binaryOp Mod int int") => `(tactic| k_extra "TL@ binaryOp Mod int int")
  | `(tactic| walk_at "subscriptTail Name BinOp str int") => `(tactic| k_extra "TL@ subscriptTail Name BinOp str int")
  | `(tactic| walk_at "binaryOp Add str str") => `(tactic| k_extra "TL@ binaryOp Add str str")
  | `(tactic| walk_at "exec If Compare cons nil") => `(tactic| k_extra "TL@ exec If Compare cons nil")
  | `(tactic| walk_at "execs cons Assign nil") => `(tactic| k_extra "TL@ execs cons Assign nil")
  | `(tactic| walk_at "EscEnd next") => `(tactic| k_extra "TL@ EscEnd next")
  | `(tactic| walk_at "call builtin:str.replace nil") => `(tactic| k_extra "TL@ call builtin:str.replace nil")
  | `(tactic| walk_at "CompEnd str") => `(tactic| k_extra "TL@ CompEnd str")
  | `(tactic| walk_at "Exists") => `(tactic| k_extra "TL@ Exists")
  | `(tactic| walk_at "eval ListComp Subscript cons") => `(tactic| k_extra "TL@ eval ListComp Subscript cons")
  | `(tactic| walk_at "ite") => `(tactic| k_extra "TL@ ite")
  | `(tactic| walk_at "StrSrc Subscript cons str") => `(tactic| k_extra "TL@ StrSrc Subscript cons str")
  | `(tactic| walk_at "subscriptTail Name Name ref str") => `(tactic| k_extra "TL@ subscriptTail Name Name ref str")
  | `(tactic| walk_at "storeName ref") => `(tactic| k_extra "TL@ storeName ref")
  | `(tactic| walk_at "CompEnd int") => `(tactic| k_extra "TL@ CompEnd int")
  | `(tactic| walk_at "eval ListComp") => `(tactic| k_extra "TL@ eval ListComp")
  | `(tactic| walk_at "getMethod ref") => `(tactic| k_extra "TL@ getMethod ref")
  | `(tactic| walk_at "call builtin:list.count") => `(tactic| k_extra "TL@ call builtin:list.count")
  | `(tactic| walk_at "binaryOp Div int int") => `(tactic| k_extra "TL@ binaryOp Div int int")
  | `(tactic| walk_at "exec Assign cons ListComp") => `(tactic| k_extra "TL@ exec Assign cons ListComp")
  | `(tactic| walk_at "CompEnd float") => `(tactic| k_extra "TL@ CompEnd float")
  | `(tactic| walk_at "subscriptTail Name Constant ref int") => `(tactic| k_extra "TL@ subscriptTail Name Constant ref int")
  | `(tactic| walk_at "CompSrc") => `(tactic| k_extra "TL@ CompSrc")
  | `(tactic| walk_at "CompSrcT") => `(tactic| k_extra "TL@ CompSrcT")
  | `(tactic| walk_at "CompEnd") => `(tactic| k_extra "TL@ CompEnd")
  | `(tactic| walk_at "compareOp NotEq ref ref") => `(tactic| k_extra "TL@ compareOp NotEq ref ref")
  | `(tactic| walk_at "call builtin:max") => `(tactic| k_extra "TL@ call builtin:max")
  | `(tactic| walk_at "subscriptTail Name Slice ref ref") => `(tactic| k_extra "TL@ subscriptTail Name Slice ref ref")
  | `(tactic| walk_at "compareOp Eq int int") => `(tactic| k_extra "TL@ compareOp Eq int int")
  | `(tactic| walk_at "subscriptTail Name Call ref int") => `(tactic| k_extra "TL@ subscriptTail Name Call ref int")
  | `(tactic| walk_at "call builtin:list.append nil") => `(tactic| k_extra "TL@ call builtin:list.append nil")
  | `(tactic| walk_at "execs cons If nil") => `(tactic| k_extra "TL@ execs cons If nil")
  | `(tactic| walk_at "exec For Name Call cons nil") => `(tactic| k_extra "TL@ exec For Name Call cons nil")
  | `(tactic| walk_at "RangeT") => `(tactic| k_extra "TL@ RangeT")
  | `(tactic| walk_at "call builtin:str.split nil") => `(tactic| k_extra "TL@ call builtin:str.split nil")
  | `(tactic| walk_at "call builtin:sorted") => `(tactic| k_extra "TL@ call builtin:sorted")
  | `(tactic| walk_at "execs cons For cons") => `(tactic| k_extra "TL@ execs cons For cons")
  | `(tactic| walk_at "subscriptTail List cons Slice") => `(tactic| k_extra "TL@ subscriptTail List cons Slice")
  | `(tactic| walk_at "execs cons Assign cons") => `(tactic| k_extra "TL@ execs cons Assign cons")

section
namespace TL
theorem int012 {k : Int} (h : 0 ≤ k ∧ k ≤ 2) : k = 0 ∨ k = 1 ∨ k = 2 := by omega
theorem le_s {a b : Nat} (h : a ≤ b) : a ≤ b + 1 := Nat.le_succ_of_le h
theorem le_ss {a b : Nat} (h : a ≤ b) : a + 1 ≤ b + 1 := Nat.succ_le_succ h
theorem le_t {a b c : Nat} (h : a ≤ b) (h' : b ≤ c) : a ≤ c := Nat.le_trans h h'
theorem lt_le {a b : Nat} (h : a + 1 ≤ b) : a < b := h
theorem lt_t {a b c : Nat} (h : a < b) (h' : b < c) : a < c := Nat.lt_trans h h'
theorem ne0_of {a b : Nat} (h : a + 1 ≤ b) : b ≠ 0 := Nat.ne_of_gt (Nat.lt_of_lt_of_le (Nat.succ_pos a) h)
theorem ne_lt {a b : Nat} (h : a < b) : a ≠ b := Nat.ne_of_lt h
theorem ne_gt {a b : Nat} (h : b < a) : a ≠ b := Nat.ne_of_gt h
theorem size_two {a b c n : Nat} (h : n = 8) : min a n + min b (n - c) ≤ 16777216 := Nat.le_trans (Nat.add_le_add (Nat.min_le_right _ _) (Nat.le_trans (Nat.min_le_right _ _) (Nat.sub_le _ _))) (by rw [h]; decide)
end TL
end

section
set_option maxRecDepth 100000
set_option maxHeartbeats 8000000
namespace TL
/- the quick twin of the program: its name is taken, so that none is made (3 MB) -/
theorem pw.tw2636218977703213605 : True := trivial
set_option Elab.async true in
theorem pw : (true || importsNone PySem.Challenge.pw_tl0040_01) = true := by k_qdec
#print axioms pw
/-- the head's own check is left for later (law_holds): here it stands as the first half of a hypothesis -/
local macro_rules
  | `(tactic| refine $f:ident (q := $q) (loose := $l) (Xt := $x) (XP := $y) (Yf := $a) (Ya := $b) (YP := $c) (N := $n) ?$_:ident $b1 $b2 $b3 $b4 $b5 $b6 $b7 $b8 $b9 $b10 $b11 $b12 ?$hw:ident ?$hc:ident) =>
    `(tactic| refine (fun (h : And _ _) => $f (q := $q) (loose := $l) (Xt := $x) (XP := $y) (Yf := $a) (Ya := $b) (YP := $c) (N := $n) (And.left h) $b1 $b2 $b3 $b4 $b5 $b6 $b7 $b8 $b9 $b10 $b11 $b12 ?$hw (And.right h)) ?$hc)
open_top hd for PySem.Challenge.rw_tl0040_01
end TL
namespace TL
/- the quick twin of the view: likewise -/
theorem pv.tw10777755904687179109 : True := trivial
set_option Elab.async true in
theorem pv : (true || importsNone hd.view_39) = true := by k_qdec
#print axioms pv
/-- the walk that the head asks for -/
def second {A B C : Prop} (_ : A ∧ B → C) : Prop := B
end TL
end

section
open PySem PySem.W PySem.Spec PySem.Calls PyProof.Rows
set_option maxRecDepth 100000
set_option maxHeartbeats 8000000
namespace TL

def Con (w : World) (mean : ExcName → Option Value) (mg mb : Str → Option Value) (f : Addr) (n : Nat) (news : List (Addr × Obj)) (vs : List Value)
    (Ret : Heap → Addr → (Str → Option Value) → Shared → (Value → Shared → Prop) → Prop) : Prop :=
  ∀ (dp un : Nat) (gd : Option (List Code)) (cn : Str) (cs : Scope) (a : Addr) (ccd : Value) (cl : List (Str × Addr)) (outer : List Env) (A₀ : Around) (base h₀ : Heap) (L : Addr) (m : Str → Option Value) (s : Shared) (Q E : Value → Shared → Prop),
    Below A₀ base outer h₀ → Fr h₀ L s.heap m → (hd.heap_39 w.params).In h₀ → News h₀ L s.heap news →
    Top hd.view_39 (looseW hd.view_39 [Str.ofString "Whitespace", Str.ofString "ONE_THIRD", Str.ofString "ONE_SIXTH", Str.ofString "TWO_THIRD"]) mean mg mb h₀ →
    cs.kind = .function → dp + n < recursionLimit → un + 8 * n < cLine → Ret h₀ L m s Q →
    wpAny (model Challenge.rw_tl0040_01.row.prog w) (ktrTop dp un gd cn cs L a ccd cl outer) (call (.ref f) vs) Q E s

/-- a plain value comes back, the ledger as it stood -/
abbrev RetV (news : List (Addr × Obj)) (R : Tok → Value) : Heap → Addr → (Str → Option Value) → Shared → (Value → Shared → Prop) → Prop :=
  fun h₀ L m s Q => ∀ (t : Tok) (h' : Heap) (tk' : Nat), Fr h₀ L h' m → News h₀ L h' news → Q (R t) { s with heap := h', toks := tk' }

theorem Con.use {w : World} {mean : ExcName → Option Value} {mg mb : Str → Option Value} {f : Addr} {n : Nat} {news : List (Addr × Obj)} {vs : List Value}
    {Ret : Heap → Addr → (Str → Option Value) → Shared → (Value → Shared → Prop) → Prop}
    {dp un : Nat} {gd : Option (List Code)} {cn : Str} {cs : Scope} {a : Addr} {ccd : Value} {cl : List (Str × Addr)} {outer : List Env} {A₀ : Around} {base h₀ : Heap} {L : Addr} {m : Str → Option Value} {s : Shared} {Q E : Value → Shared → Prop}
    (C : Con w mean mg mb f n news vs Ret)
    (B : Below A₀ base outer h₀) (F : Fr h₀ L s.heap m) (X : (hd.heap_39 w.params).In h₀) (N : News h₀ L s.heap news)
    (T : Top hd.view_39 (looseW hd.view_39 [Str.ofString "Whitespace", Str.ofString "ONE_THIRD", Str.ofString "ONE_SIXTH", Str.ofString "TWO_THIRD"]) mean mg mb h₀)
    (hk : cs.kind = .function) (hd : dp + n < recursionLimit) (hu : un + 8 * n < cLine) (ret : Ret h₀ L m s Q) :
    wpAny (model Challenge.rw_tl0040_01.row.prog w) (ktrTop dp un gd cn cs L a ccd cl outer) (call (.ref f) vs) Q E s :=
  C dp un gd cn cs a ccd cl outer A₀ base h₀ L m s Q E B F X N T hk hd hu ret


section
variable {prog : Program} {w : World} {A : Around} {h₀ : Heap} {L : Addr} {m : Str → Option Value} {env : Env} {elt : PySem.Expr} {x : Str} {scope : Scope} {cl : List (Str × Addr)} {s : Shared} {S : List (Addr × Obj) → Prop} {P : Nat → Value → Prop} {Fin : List Value → List (Addr × Obj) → Prop} {news : List (Addr × Obj)}
/-- the values of a list, one by one -/
inductive Vals (R : Nat → Value → Prop) : Nat → List Value → Prop where
  | nil {i : Nat} : Vals R i []
  | cons {i : Nat} {y : Value} {ys : List Value} : R i y → Vals R (i + 1) ys → Vals R i (y :: ys)
theorem Vals.snoc {R : Nat → Value → Prop} : ∀ {i : Nat} {ys : List Value} {y : Value}, Vals R i ys → R (i + ys.length) y → Vals R i (ys ++ [y])
  | _, [], _, .nil, h => .cons h .nil
  | i, z :: ys, y, .cons hz r, h => .cons hz (r.snoc (by rw [List.length_cons] at h; rwa [show i + 1 + ys.length = i + (ys.length + 1) by omega]))

/-- a comprehension whose element leaves the ledger as it stood: its values by a word of their places -/
theorem comp_vals {n : Nat} (R : Nat → Value → Prop)
    (turn : ∀ i v I oI C oC D m₂ ys h tk (E' : Value → Shared → Prop), i < n → P i v → LCg.NsObj oC m₂ → m₂ x = some v → Fr h₀ L h m → News h₀ L h ((I, oI) :: (C, oC) :: (D, LCg.lst ys) :: news) → LCg.Off3 I C D news → S news → ((@Ne Nat I C) ∧ (@Ne Nat I D) ∧ (@Ne Nat C D)) →
      wpAny (model prog w) A (eval elt (compEnvC scope cl C env)) (LCg.CompEnd h₀ L m { s with heap := h, toks := tk } I oI C oC D (LCg.lst ys) S (fun y news' => news' = news ∧ R i y)) E' { s with heap := h, toks := tk })
    (hS : S news)
    (fin : ∀ ys, ys.length = n → Vals R 0 ys → Fin ys news) : LCg.CompRest prog w A h₀ L m env elt x scope cl s S P Fin n 0 [] news := by
  have key : ∀ (j i : Nat) (ys : List Value), i + j = n → ys.length = i → Vals R 0 ys → LCg.CompRest prog w A h₀ L m env elt x scope cl s S P Fin j i ys news := by
    intro j
    induction j with
    | zero =>
      intro i ys hi hl hv
      exact LCg.CompRest.zero (fin ys (by omega) hv)
    | succ j ih =>
      intro i ys hi hl hv
      refine LCg.CompRest.succ ?_
      intro v I oI C oC D m₂ h tk E' hP hC hx F N off ne
      refine wpAny_mono (turn i v I oI C oC D m₂ ys h tk E' (by omega) hP hC hx F N off hS ne) (fun y s₂ hq => ?_) fun _ _ e => e
      obtain ⟨h', tk', nw, e, F', N', off', hS', hn, hr⟩ := hq
      subst hn
      exact ⟨h', tk', nw, e, F', N', off', hS', ih (i + 1) _ (by omega) (by rw [List.length_append, hl]; rfl) (hv.snoc (by rw [Nat.zero_add, hl]; exact hr))⟩
  exact key n 0 [] (by omega) rfl .nil
theorem comp_end {I C D : Addr} {s₁ : Shared} {oI oC oD : Obj} {R : Value → Prop} {y : Value} {h' : Heap} {tk : Nat} {all : List (Addr × Obj)}
    (F : Fr h₀ L h' m) (N : News h₀ L h' all) (sub : ∀ p ∈ (I, oI) :: (C, oC) :: (D, oD) :: news, p ∈ all) (off : LCg.Off3 I C D news) (hS : S news) (r : R y) :
    LCg.CompEnd h₀ L m s₁ I oI C oC D oD S (fun y news' => news' = news ∧ R y) y { s₁ with heap := h', toks := tk } := ⟨h', tk, news, rfl, F, fun p hp => N p (sub p hp), off, hS, rfl, r⟩
end
end TL
end

section
open PySem PySem.W PySem.Spec PySem.Calls PyProof.Rows
set_option linter.unusedVariables false
set_option maxRecDepth 100000
set_option maxHeartbeats 8000000
namespace TL
theorem runs_toks {M : Model} {Γ : PySem.Ctx} {p : Pos} {t : Sem Fin} {fs : List Frame} {s : Shared} {e : End} {s' : Shared} (h : Runs M Γ p t fs s e s') : s.toks ≤ s'.toks := by
  induction h
  all_goals first
    | exact Nat.le_refl _
    | assumption
    | exact Nat.le_trans (Nat.le_succ _) (by assumption)
    | exact Nat.le_trans (by assumption) (by assumption)
theorem wakes_toks {M : Model} {Γ : PySem.Ctx} {p : Pos} {g : Nat} {r : Resume} {s : Shared} {res : GenResult} {s' : Shared} (h : Wakes M Γ p g r s res s') : s.toks ≤ s'.toks := by
  unfold Wakes at h
  split at h
  · exact h.elim
  · split at h
    · obtain ⟨e₁, s₁, hr, _, _, rfl⟩ := h
      have := runs_toks hr
      exact this
    · obtain ⟨_, rfl⟩ := h
      exact Nat.le_refl _
    · obtain ⟨_, rfl⟩ := h
      exact Nat.le_refl _
  · obtain ⟨e₁, s₁, hr, _, _, rfl⟩ := h
    have := runs_toks hr
    exact this
  · obtain ⟨_, rfl⟩ := h
    exact Nat.le_refl _
  · obtain ⟨_, rfl⟩ := h
    exact Nat.le_refl _
theorem wp_toks {α : Type} {M : Model} {Γ : PySem.Ctx} {n : Nat} : ∀ (t : Sem α) (Q : α → Pos → Shared → Prop) (E : Value → Pos → Shared → Prop) (p : Pos) (s : Shared), n ≤ s.toks → Sem.wp M Γ t Q E p s → Sem.wp M Γ t (fun a p' s' => n ≤ s'.toks ∧ Q a p' s') (fun a p' s' => n ≤ s'.toks ∧ E a p' s') p s := by
  intro t
  induction t with
  | pure a => exact fun Q E p s hn h => ⟨hn, h⟩
  | raise e => exact fun Q E p s hn h => ⟨hn, h⟩
  | unsupported w => exact fun Q E p s hn h => h
  | finish e => exact fun Q E p s hn h => h
  | rule t k ih => exact fun Q E p s hn h => ih () Q E p s hn h
  | «at» p' k ih => exact fun Q E p s hn h => ih () Q E p' s hn h
  | load a pt k ih => exact fun Q E p s hn ⟨o, ho, h⟩ => ⟨o, ho, ih o Q E p s hn h⟩
  | update a pt f k ih => exact fun Q E p s hn ⟨ho, h⟩ => ⟨ho, ih () Q E p _ hn h⟩
  | alloc o k ih => exact fun Q E p s hn h => ih _ Q E p _ hn h
  | loadIfAlive a k ih => exact fun Q E p s hn h => ih _ Q E p _ hn h
  | point l k ih => exact fun Q E p s hn h => ih _ Q E p _ hn h
  | register a k ih => exact fun Q E p s hn h => h
  | fresh k ih => exact fun Q E p s hn h => ih _ Q E p _ (Nat.le_succ_of_le hn) h
  | ask k ih => exact fun Q E p s hn h => ih _ Q E p _ hn h
  | choose src m k ih => exact fun Q E p s hn ⟨ho, h⟩ => ⟨ho, ih _ Q E p _ hn h⟩
  | os q l k ih => exact fun Q E p s hn h => ih _ Q E p _ hn h
  | call c h g l k ih => exact fun Q E p s hn ⟨r, s', hr, h⟩ => ⟨r, s', hr, ih r Q E p s' (Nat.le_trans hn (runs_toks hr)) h⟩
  | handled o k ih => exact fun Q E p s hn h => ih _ Q E p _ hn h
  | newGen c k ih => exact fun Q E p s hn h => ih _ Q E p _ hn h
  | genState g k ih => exact fun Q E p s hn ⟨st, hs, h⟩ => ⟨st, hs, ih _ Q E p _ hn h⟩
  | resume g r l k ih => exact fun Q E p s hn ⟨res, s', hw, h⟩ => ⟨res, s', hw, ih res Q E p s' (Nat.le_trans hn (wakes_toks hw)) h⟩
  | yield v g l k ih => exact fun Q E p s hn h => h
  | stack k ih => exact fun Q E p s hn h => ih _ Q E p _ hn h
  | fork c k ih => exact fun Q E p s hn h => h
  | thread k ih => exact fun Q E p s hn h => ih _ Q E p _ hn h
  | await a t d l k ih => exact fun Q E p s hn h => h
/-- no run makes the count of tokens smaller -/
theorem wpAny_toks {α : Type} {M : Model} {A : Around} {t : Sem α} {Q : α → Shared → Prop} {E : Value → Shared → Prop} {s : Shared} (h : wpAny M A t Q E s) :
    wpAny M A t (fun a s' => s.toks ≤ s'.toks ∧ Q a s') E s :=
  fun Γ p hΓ => Sem.wp_mono M Γ t (fun _ _ _ h => h) (fun _ _ _ h => h.2) p s (wp_toks t _ _ p s (Nat.le_refl _) (h Γ p hΓ))
theorem toks_up {α : Type} {M : Model} {A : Around} {t : Sem α} {Q : α → Shared → Prop} {E : Value → Shared → Prop} {s : Shared} (h : wpAny M A t (fun a s' => s.toks ≤ s'.toks → Q a s') E s) : wpAny M A t Q E s :=
  wpAny_mono (wpAny_toks h) (fun _ _ h => h.2 h.1) fun _ _ h => h
end TL
end

section
open PySem PySem.W PySem.Spec PySem.Calls PyProof.Rows
set_option maxRecDepth 100000
set_option maxHeartbeats 8000000
namespace TL

def ltF (x y : UInt64) : Bool := Float64.cmp x y == some .lt
def fmax (a b c : UInt64) : UInt64 := if ltF a b = true then (if ltF b c = true then c else b) else (if ltF a c = true then c else a)
def fmin (a b c : UInt64) : UInt64 := if ltF b a = true then (if ltF c b = true then c else b) else (if ltF c a = true then c else a)

section
variable {prog : Program} {w : World} {A : Around} {E : Value → Shared → Prop} {s : Shared} {Q : Value → Shared → Prop} {a b c : UInt64} {t u v : Tok}

theorem max3_any (hh : A.handled = none)
    (h : ∀ h' tk x, (x = t ∨ x = u ∨ x = v) → (∀ d o, s.heap.get? d = some o → h'.get? d = some o) → Q (.float (fmax a b c) x) { s with heap := h', toks := tk }) :
    wpAny (model prog w) A (call (.builtin "max") [.float a t, .float b u, .float c v]) Q E s := by
  have hT : (s.heap.push { cls := .type "tuple", data := .seq #[.float a t, .float b u, .float c v] }).IsTuple s.heap.objs.size #[.float a t, .float b u, .float c v] := ⟨_, Heap.get?_push_size _ rfl, rfl, 0, rfl⟩
  refine call_max_three (wpAny_pyIter_tuple hT ?_)
  have hsz : (s.heap.push { cls := .type "tuple", data := .seq #[.float a t, .float b u, .float c v] }).objs.size = s.heap.objs.size + 1 := Heap.size_push ..
  refine ⟨_, [_, s.heap.objs.size], [_], _, _, _, _, rfl, Walks.tuple (A := A.in1) hh _ s.heap.objs.size (by rw [hsz]; exact Nat.ne_of_lt (Nat.lt_succ_self _)) #[.float a t, .float b u, .float c v],
    ⟨⟨_, Heap.get?_push_size _ rfl, rfl, rfl⟩, hT.push _⟩, fun d hd => ?_, by simp, Flt.cmpOf_gt #[.float a t, .float b u, .float c v] (by intro x hx; simp at hx; rcases hx with rfl | rfl | rfl <;> exact .float _ _), fun y h' tk hP hk => ?_⟩
  · have hd' : @Eq Nat d (s.heap.objs.size + 1) ∨ @Eq Nat d s.heap.objs.size := by simpa [hsz] using hd
    show @LT.lt Nat _ d ((s.heap.push _).push _).objs.size
    rw [Heap.size_push, hsz]
    rcases hd' with e | e <;> rw [e] <;> omega
  · have hold : ∀ d o, s.heap.get? d = some o → h'.get? d = some o := fun d o e => by
      refine hk d o (fun hm => ?_) (Heap.get?_push_of_some _ (Heap.get?_push_of_some _ e))
      have e1 : @LT.lt Nat _ d s.heap.objs.size := Heap.lt_size e
      have e2 : @Eq Nat d (s.heap.objs.size + 1) := by simpa [hsz] using hm
      omega
    have hy : y = .float a t ∨ y = .float b u ∨ y = .float c v := by
      cases e1 : (Float64.cmp a b == some .lt) <;> cases e2 : (Float64.cmp b c == some .lt) <;> cases e3 : (Float64.cmp a c == some .lt) <;>
        simp [argBest, Flt.ltV, e1, e2, e3] at hP <;> (subst hP; simp)
    have hv' : ∃ x, y = .float (fmax a b c) x := by
      unfold fmax ltF
      cases e1 : (Float64.cmp a b == some .lt) <;> cases e2 : (Float64.cmp b c == some .lt) <;> cases e3 : (Float64.cmp a c == some .lt) <;>
        simp [argBest, Flt.ltV, e1, e2, e3] at hP ⊢ <;> (subst hP; exact ⟨_, rfl⟩)
    have hv : ∃ x, (x = t ∨ x = u ∨ x = v) ∧ y = .float (fmax a b c) x := by
      obtain ⟨x, rfl⟩ := hv'
      refine ⟨x, ?_, rfl⟩
      simp only [Value.float.injEq] at hy
      rcases hy with h | h | h
      · exact .inl h.2
      · exact .inr (.inl h.2)
      · exact .inr (.inr h.2)
    obtain ⟨x, hx, rfl⟩ := hv
    exact h h' tk x hx hold

theorem min3_any (hh : A.handled = none)
    (h : ∀ h' tk x, (x = t ∨ x = u ∨ x = v) → (∀ d o, s.heap.get? d = some o → h'.get? d = some o) → Q (.float (fmin a b c) x) { s with heap := h', toks := tk }) :
    wpAny (model prog w) A (call (.builtin "min") [.float a t, .float b u, .float c v]) Q E s := by
  have hT : (s.heap.push { cls := .type "tuple", data := .seq #[.float a t, .float b u, .float c v] }).IsTuple s.heap.objs.size #[.float a t, .float b u, .float c v] := ⟨_, Heap.get?_push_size _ rfl, rfl, 0, rfl⟩
  refine call_min_three (wpAny_pyIter_tuple hT ?_)
  have hsz : (s.heap.push { cls := .type "tuple", data := .seq #[.float a t, .float b u, .float c v] }).objs.size = s.heap.objs.size + 1 := Heap.size_push ..
  refine ⟨_, [_, s.heap.objs.size], [_], _, _, _, _, rfl, Walks.tuple (A := A.in1) hh _ s.heap.objs.size (by rw [hsz]; exact Nat.ne_of_lt (Nat.lt_succ_self _)) #[.float a t, .float b u, .float c v],
    ⟨⟨_, Heap.get?_push_size _ rfl, rfl, rfl⟩, hT.push _⟩, fun d hd => ?_, by simp, Flt.cmpOf_lt #[.float a t, .float b u, .float c v] (by intro x hx; simp at hx; rcases hx with rfl | rfl | rfl <;> exact .float _ _), fun y h' tk hP hk => ?_⟩
  · have hd' : @Eq Nat d (s.heap.objs.size + 1) ∨ @Eq Nat d s.heap.objs.size := by simpa [hsz] using hd
    show @LT.lt Nat _ d ((s.heap.push _).push _).objs.size
    rw [Heap.size_push, hsz]
    rcases hd' with e | e <;> rw [e] <;> omega
  · have hold : ∀ d o, s.heap.get? d = some o → h'.get? d = some o := fun d o e => by
      refine hk d o (fun hm => ?_) (Heap.get?_push_of_some _ (Heap.get?_push_of_some _ e))
      have e1 : @LT.lt Nat _ d s.heap.objs.size := Heap.lt_size e
      have e2 : @Eq Nat d (s.heap.objs.size + 1) := by simpa [hsz] using hm
      omega
    have hy : y = .float a t ∨ y = .float b u ∨ y = .float c v := by
      cases e1 : (Float64.cmp b a == some .lt) <;> cases e2 : (Float64.cmp c b == some .lt) <;> cases e3 : (Float64.cmp c a == some .lt) <;>
        simp [argBest, Flt.ltV, e1, e2, e3] at hP <;> (subst hP; simp)
    have hv' : ∃ x, y = .float (fmin a b c) x := by
      unfold fmin ltF
      cases e1 : (Float64.cmp b a == some .lt) <;> cases e2 : (Float64.cmp c b == some .lt) <;> cases e3 : (Float64.cmp c a == some .lt) <;>
        simp [argBest, Flt.ltV, e1, e2, e3] at hP ⊢ <;> (subst hP; exact ⟨_, rfl⟩)
    have hv : ∃ x, (x = t ∨ x = u ∨ x = v) ∧ y = .float (fmin a b c) x := by
      obtain ⟨x, rfl⟩ := hv'
      refine ⟨x, ?_, rfl⟩
      simp only [Value.float.injEq] at hy
      rcases hy with h | h | h
      · exact .inl h.2
      · exact .inr (.inl h.2)
      · exact .inr (.inr h.2)
    obtain ⟨x, hx, rfl⟩ := hv
    exact h h' tk x hx hold

variable {h₀ : Heap} {L : Addr} {m : Str → Option Value} {news : List (Addr × Obj)}
theorem max3_N (hh : A.handled = none) (F : Fr h₀ L s.heap m) (N : News h₀ L s.heap news)
    (h : ∀ h' tk x, s.toks ≤ tk → (x = t ∨ x = u ∨ x = v) → Fr h₀ L h' m → News h₀ L h' news → Q (.float (fmax a b c) x) { s with heap := h', toks := tk }) :
    wpAny (model prog w) A (call (.builtin "max") [.float a t, .float b u, .float c v]) Q E s :=
  toks_up (max3_any hh fun h' tk x hx k htk => h h' tk x htk hx (F.grownK k) (N.grown k))
theorem min3_N (hh : A.handled = none) (F : Fr h₀ L s.heap m) (N : News h₀ L s.heap news)
    (h : ∀ h' tk x, s.toks ≤ tk → (x = t ∨ x = u ∨ x = v) → Fr h₀ L h' m → News h₀ L h' news → Q (.float (fmin a b c) x) { s with heap := h', toks := tk }) :
    wpAny (model prog w) A (call (.builtin "min") [.float a t, .float b u, .float c v]) Q E s :=
  toks_up (min3_any hh fun h' tk x hx k htk => h h' tk x htk hx (F.grownK k) (N.grown k))
end


abbrev tup3 (x : UInt64 × UInt64 × UInt64) (t1 t2 t3 : Tok) : Obj := { cls := .type "tuple", data := .seq #[.float x.1 t1, .float x.2.1 t2, .float x.2.2 t3] }
/-- a new tuple of three floats comes back -/
abbrev RetT (news : List (Addr × Obj)) (R : UInt64 × UInt64 × UInt64) : Heap → Addr → (Str → Option Value) → Shared → (Value → Shared → Prop) → Prop :=
  fun h₀ L m s Q => ∀ (a : Addr) (t1 t2 t3 : Tok) (h' : Heap) (tk' : Nat), Fr h₀ L h' m → News h₀ L h' ((a, tup3 R t1 t2 t3) :: news) → (∀ p ∈ news, p.1 < a) → Q (.ref a) { s with heap := h', toks := tk' }

theorem ret_t {news : List (Addr × Obj)} {R : UInt64 × UInt64 × UInt64} {h₀ h' : Heap} {L a : Addr} {m : Str → Option Value} {s : Shared} {Q : Value → Shared → Prop} {x y z : UInt64} {t1 t2 t3 : Tok} {tk' : Nat}
    (hret : RetT news R h₀ L m s Q) (e : (x, y, z) = R) (F : Fr h₀ L h' m) (N : News h₀ L h' ((a, { cls := .type "tuple", data := .seq #[.float x t1, .float y t2, .float z t3] }) :: news)) (l : ∀ p ∈ news, p.1 < a) :
    Q (.ref a) { s with heap := h', toks := tk' } := by
  subst e
  exact hret a t1 t2 t3 h' tk' F N l
/-- what is known of the tokens of a hue, a share and a level -/
def TokT (n k t1 t2 t3 : Nat) : Prop := n ≤ t1 ∧ t1 < k ∧ n ≤ t2 ∧ t2 < k ∧ t1 ≠ 0 ∧ t2 ≠ 0 ∧ t3 ≠ 0
/-- a new tuple of three floats comes back, its tokens told -/
abbrev RetTT (news : List (Addr × Obj)) (R : UInt64 × UInt64 × UInt64) : Heap → Addr → (Str → Option Value) → Shared → (Value → Shared → Prop) → Prop :=
  fun h₀ L m s Q => ∀ (a : Addr) (t1 t2 t3 : Tok) (h' : Heap) (tk' : Nat), Fr h₀ L h' m → News h₀ L h' ((a, tup3 R t1 t2 t3) :: news) → (∀ p ∈ news, p.1 < a) → TokT s.toks tk' t1 t2 t3 → Q (.ref a) { s with heap := h', toks := tk' }
abbrev RetTL (news : List (Addr × Obj)) (R : UInt64 × UInt64 × UInt64) : Heap → Addr → (Str → Option Value) → Shared → (Value → Shared → Prop) → Prop :=
  fun h₀ L m s Q => ∀ (a : Addr) (t1 t2 t3 : Tok) (h' : Heap) (tk' : Nat), Fr h₀ L h' m → News h₀ L h' ((a, tup3 R t1 t2 t3) :: news) → (∀ p ∈ news, p.1 < a) → TokT s.toks tk' t1 t3 t2 → Q (.ref a) { s with heap := h', toks := tk' }
theorem ret_tl {news : List (Addr × Obj)} {R : UInt64 × UInt64 × UInt64} {h₀ h' : Heap} {L a : Addr} {m : Str → Option Value} {s : Shared} {Q : Value → Shared → Prop} {x y z : UInt64} {t1 t2 t3 : Tok} {tk' : Nat}
    (hret : RetTL news R h₀ L m s Q) (e : (x, y, z) = R) (F : Fr h₀ L h' m) (N : News h₀ L h' ((a, { cls := .type "tuple", data := .seq #[.float x t1, .float y t2, .float z t3] }) :: news)) (l : ∀ p ∈ news, p.1 < a) (ht : TokT s.toks tk' t1 t3 t2) :
    Q (.ref a) { s with heap := h', toks := tk' } := by
  subst e
  exact hret a t1 t2 t3 h' tk' F N l ht
theorem ret_tt {news : List (Addr × Obj)} {R : UInt64 × UInt64 × UInt64} {h₀ h' : Heap} {L a : Addr} {m : Str → Option Value} {s : Shared} {Q : Value → Shared → Prop} {x y z : UInt64} {t1 t2 t3 : Tok} {tk' : Nat}
    (hret : RetTT news R h₀ L m s Q) (e : (x, y, z) = R) (F : Fr h₀ L h' m) (N : News h₀ L h' ((a, { cls := .type "tuple", data := .seq #[.float x t1, .float y t2, .float z t3] }) :: news)) (l : ∀ p ∈ news, p.1 < a) (ht : TokT s.toks tk' t1 t2 t3) :
    Q (.ref a) { s with heap := h', toks := tk' } := by
  subst e
  exact hret a t1 t2 t3 h' tk' F N l ht
theorem tok3 {x t u v : Tok} (h : x = t ∨ x = u ∨ x = v) (h1 : t ≠ 0) (h2 : u ≠ 0) (h3 : v ≠ 0) : x ≠ 0 := by rcases h with rfl | rfl | rfl <;> assumption
theorem gen_add {α : Type} {M : Model} {A : Around} {t : Sem α} {Q : α → Shared → Prop} {E : Value → Shared → Prop} {h : Heap} {g : Array GenState} {d : Drawn} {o : OsState} {e k : Nat} (H : ∀ tk, e + k ≤ tk → wpAny M A t Q E ⟨h, g, d, tk, o⟩) : wpAny M A t Q E ⟨h, g, d, e + k, o⟩ := H _ (Nat.le_refl _)
theorem ret_f {news : List (Addr × Obj)} {R : UInt64} {h₀ h' : Heap} {L : Addr} {m : Str → Option Value} {s : Shared} {Q : Value → Shared → Prop} {x : UInt64} {t1 : Tok} {tk' : Nat}
    (hret : RetV news (.float R) h₀ L m s Q) (e : x = R) (F : Fr h₀ L h' m) (N : News h₀ L h' news) :
    Q (.float x t1) { s with heap := h', toks := tk' } := by
  subst e
  exact hret t1 h' tk' F N

def eqF (x y : UInt64) : Bool := Float64.cmp x y == some .eq
def hsvOf (r g b : UInt64) : UInt64 × UInt64 × UInt64 :=
  if (Float64.cmp (fmin r g b) (fmax r g b) == some .eq) = true then (0, 0, fmax r g b) else
    ((Float64.divmod (Float64.div
      (if (Float64.cmp r (fmax r g b) == some .eq) = true then
        Float64.sub (Float64.div (Float64.sub (fmax r g b) b) (Float64.sub (fmax r g b) (fmin r g b))) (Float64.div (Float64.sub (fmax r g b) g) (Float64.sub (fmax r g b) (fmin r g b)))
      else if (Float64.cmp g (fmax r g b) == some .eq) = true then
        Float64.sub (Float64.add 4611686018427387904 (Float64.div (Float64.sub (fmax r g b) r) (Float64.sub (fmax r g b) (fmin r g b)))) (Float64.div (Float64.sub (fmax r g b) b) (Float64.sub (fmax r g b) (fmin r g b)))
      else
        Float64.sub (Float64.add 4616189618054758400 (Float64.div (Float64.sub (fmax r g b) g) (Float64.sub (fmax r g b) (fmin r g b)))) (Float64.div (Float64.sub (fmax r g b) r) (Float64.sub (fmax r g b) (fmin r g b)))) 4618441417868443648) 4607182418800017408).2,
     Float64.div (Float64.sub (fmax r g b) (fmin r g b)) (fmax r g b), fmax r g b)
def hsvPre (r g b : UInt64) : Bool := (Float64.cmp (fmin r g b) (fmax r g b) == some .eq) || (!Float64.isZero (fmax r g b) && !Float64.isZero (Float64.sub (fmax r g b) (fmin r g b)))

theorem rgb_to_hsv_con (w : World) (mean : ExcName → Option Value) (mg mb : Str → Option Value) (news : List (Addr × Obj)) (r g b : UInt64) (t1 t2 t3 : Tok) (hp : hsvPre r g b = true) (h1 : t1 ≠ 0) (h2 : t2 ≠ 0) (h3 : t3 ≠ 0) :
   Con w mean mg mb 115 1 news [.float r t1, .float g t2, .float b t3] (RetTT news (hsvOf r g b)) := by
  unfold Con
  k_fill
  w_top on
  w_on
  k_with_none
  k_with "TL lt0" => (first | (with_reducible assumption) | (refine lt_t ?_ (by with_reducible assumption); k_extra "TL lt0") | (with_reducible exact And.left (by assumption)) | (with_reducible exact And.left (And.right (by assumption))) | (with_reducible exact And.left (And.right (And.right (by assumption)))) | (with_reducible exact And.left (And.right (And.right (And.right (by assumption))))) | (with_reducible exact And.left (And.right (And.right (And.right (And.right (by assumption)))))) | (with_reducible exact And.left (And.right (And.right (And.right (And.right (And.right (by assumption))))))) | (with_reducible exact And.left (And.right (And.right (And.right (And.right (And.right (And.right (by assumption)))))))) | (with_reducible exact And.left (And.right (And.right (And.right (And.right (And.right (And.right (And.right (by assumption))))))))) | (with_reducible exact And.left (And.right (And.right (And.right (And.right (And.right (And.right (And.right (And.right (by assumption)))))))))) | (with_reducible exact And.left (And.right (And.right (And.right (And.right (And.right (And.right (And.right (And.right (And.right (by assumption))))))))))) | (with_reducible exact And.left (And.right (And.right (And.right (And.right (And.right (And.right (And.right (And.right (And.right (And.right (by assumption)))))))))))) | (with_reducible exact And.left (And.right (And.right (And.right (And.right (And.right (And.right (And.right (And.right (And.right (And.right (And.right (by assumption))))))))))))) | (with_reducible exact And.left (And.right (And.right (And.right (And.right (And.right (And.right (And.right (And.right (And.right (And.right (And.right (And.right (by assumption)))))))))))))) | (with_reducible exact And.left (And.right (And.right (And.right (And.right (And.right (And.right (And.right (And.right (And.right (And.right (And.right (And.right (And.right (by assumption))))))))))))))) | (with_reducible exact And.left (And.right (And.right (And.right (And.right (And.right (And.right (And.right (And.right (And.right (And.right (And.right (And.right (And.right (And.right (by assumption)))))))))))))))) | (with_reducible exact And.left (And.right (And.right (And.right (And.right (And.right (And.right (And.right (And.right (And.right (And.right (And.right (And.right (And.right (And.right (And.right (by assumption))))))))))))))))) | (with_reducible exact And.left (And.right (And.right (And.right (And.right (And.right (And.right (And.right (And.right (And.right (And.right (And.right (And.right (And.right (And.right (And.right (And.right (by assumption)))))))))))))))))) | (with_reducible exact And.left (And.right (And.right (And.right (And.right (And.right (And.right (And.right (And.right (And.right (And.right (And.right (And.right (And.right (And.right (And.right (And.right (And.right (by assumption))))))))))))))))))) | (with_reducible exact And.left (And.right (And.right (And.right (And.right (And.right (And.right (And.right (And.right (And.right (And.right (And.right (And.right (And.right (And.right (And.right (And.right (And.right (And.right (by assumption)))))))))))))))))))) | (with_reducible exact And.left (And.right (And.right (And.right (And.right (And.right (And.right (And.right (And.right (And.right (And.right (And.right (And.right (And.right (And.right (And.right (And.right (And.right (And.right (And.right (by assumption))))))))))))))))))))) | (with_reducible exact And.left (And.right (And.right (And.right (And.right (And.right (And.right (And.right (And.right (And.right (And.right (And.right (And.right (And.right (And.right (And.right (And.right (And.right (And.right (And.right (And.right (by assumption)))))))))))))))))))))) | (with_reducible exact And.left (And.right (And.right (And.right (And.right (And.right (And.right (And.right (And.right (And.right (And.right (And.right (And.right (And.right (And.right (And.right (And.right (And.right (And.right (And.right (And.right (And.right (by assumption))))))))))))))))))))))) | (with_reducible exact And.left (And.right (And.right (And.right (And.right (And.right (And.right (And.right (And.right (And.right (And.right (And.right (And.right (And.right (And.right (And.right (And.right (And.right (And.right (And.right (And.right (And.right (And.right (by assumption)))))))))))))))))))))))) | (with_reducible exact And.left (And.right (And.right (And.right (And.right (And.right (And.right (And.right (And.right (And.right (And.right (And.right (And.right (And.right (And.right (And.right (And.right (And.right (And.right (And.right (And.right (And.right (And.right (And.right (by assumption))))))))))))))))))))))))) | (with_reducible exact And.right (by assumption)) | (with_reducible exact And.right (And.right (by assumption))) | (with_reducible exact And.right (And.right (And.right (by assumption)))) | (with_reducible exact And.right (And.right (And.right (And.right (by assumption))))) | (with_reducible exact And.right (And.right (And.right (And.right (And.right (by assumption)))))) | (with_reducible exact And.right (And.right (And.right (And.right (And.right (And.right (by assumption))))))) | (with_reducible exact And.right (And.right (And.right (And.right (And.right (And.right (And.right (by assumption)))))))) | (with_reducible exact And.right (And.right (And.right (And.right (And.right (And.right (And.right (And.right (by assumption))))))))) | (with_reducible exact And.right (And.right (And.right (And.right (And.right (And.right (And.right (And.right (And.right (by assumption)))))))))) | (with_reducible exact And.right (And.right (And.right (And.right (And.right (And.right (And.right (And.right (And.right (And.right (by assumption))))))))))) | (with_reducible exact And.right (And.right (And.right (And.right (And.right (And.right (And.right (And.right (And.right (And.right (And.right (by assumption)))))))))))) | (with_reducible exact And.right (And.right (And.right (And.right (And.right (And.right (And.right (And.right (And.right (And.right (And.right (And.right (by assumption))))))))))))) | (with_reducible exact And.right (And.right (And.right (And.right (And.right (And.right (And.right (And.right (And.right (And.right (And.right (And.right (And.right (by assumption)))))))))))))) | (with_reducible exact And.right (And.right (And.right (And.right (And.right (And.right (And.right (And.right (And.right (And.right (And.right (And.right (And.right (And.right (by assumption))))))))))))))) | (with_reducible exact And.right (And.right (And.right (And.right (And.right (And.right (And.right (And.right (And.right (And.right (And.right (And.right (And.right (And.right (And.right (by assumption)))))))))))))))) | (with_reducible exact And.right (And.right (And.right (And.right (And.right (And.right (And.right (And.right (And.right (And.right (And.right (And.right (And.right (And.right (And.right (And.right (by assumption))))))))))))))))) | (with_reducible exact And.right (And.right (And.right (And.right (And.right (And.right (And.right (And.right (And.right (And.right (And.right (And.right (And.right (And.right (And.right (And.right (And.right (by assumption)))))))))))))))))) | (with_reducible exact And.right (And.right (And.right (And.right (And.right (And.right (And.right (And.right (And.right (And.right (And.right (And.right (And.right (And.right (And.right (And.right (And.right (And.right (by assumption))))))))))))))))))) | (with_reducible exact And.right (And.right (And.right (And.right (And.right (And.right (And.right (And.right (And.right (And.right (And.right (And.right (And.right (And.right (And.right (And.right (And.right (And.right (And.right (by assumption)))))))))))))))))))) | (with_reducible exact And.right (And.right (And.right (And.right (And.right (And.right (And.right (And.right (And.right (And.right (And.right (And.right (And.right (And.right (And.right (And.right (And.right (And.right (And.right (And.right (by assumption))))))))))))))))))))) | (with_reducible exact And.right (And.right (And.right (And.right (And.right (And.right (And.right (And.right (And.right (And.right (And.right (And.right (And.right (And.right (And.right (And.right (And.right (And.right (And.right (And.right (And.right (by assumption)))))))))))))))))))))) | (with_reducible exact And.right (And.right (And.right (And.right (And.right (And.right (And.right (And.right (And.right (And.right (And.right (And.right (And.right (And.right (And.right (And.right (And.right (And.right (And.right (And.right (And.right (And.right (by assumption))))))))))))))))))))))) | (with_reducible exact And.right (And.right (And.right (And.right (And.right (And.right (And.right (And.right (And.right (And.right (And.right (And.right (And.right (And.right (And.right (And.right (And.right (And.right (And.right (And.right (And.right (And.right (And.right (by assumption)))))))))))))))))))))))))
  k_with "TL ne0" => (refine neN ?_; (try dsimp only); first | (with_reducible assumption) | (refine Ne.symm ?_; with_reducible assumption) | (with_reducible exact And.left (by assumption)) | (with_reducible exact And.left (And.right (by assumption))) | (with_reducible exact And.left (And.right (And.right (by assumption)))) | (with_reducible exact And.left (And.right (And.right (And.right (by assumption))))) | (with_reducible exact And.left (And.right (And.right (And.right (And.right (by assumption)))))) | (with_reducible exact And.left (And.right (And.right (And.right (And.right (And.right (by assumption))))))) | (with_reducible exact Ne.symm <| And.left (by assumption)) | (with_reducible exact Ne.symm <| And.left (And.right (by assumption))) | (with_reducible exact Ne.symm <| And.left (And.right (And.right (by assumption)))) | (with_reducible exact Ne.symm <| And.left (And.right (And.right (And.right (by assumption))))) | (with_reducible exact Ne.symm <| And.left (And.right (And.right (And.right (And.right (by assumption)))))) | (with_reducible exact Ne.symm <| And.left (And.right (And.right (And.right (And.right (And.right (by assumption))))))) | (refine ne_gt ?_; k_extra "TL lt0") | (refine ne_lt ?_; k_extra "TL lt0"))
  k_with "TL le" => (first | (with_reducible assumption) | (with_reducible exact Nat.le_refl _) | (with_reducible exact Nat.succ_le_of_lt (by assumption)) | (with_reducible exact Nat.le_of_lt (by assumption)) | (with_reducible refine le_ss ?_; k_extra "TL le") | ((fail_if_success (with_reducible refine le_ss ?_)); with_reducible refine le_s ?_; k_extra "TL le") | ((fail_if_success (with_reducible refine le_s ?_)); refine le_t ?_ (by with_reducible assumption); k_extra "TL le") | ((fail_if_success (with_reducible refine le_s ?_)); refine le_t ?_ (Nat.le_of_lt (by with_reducible assumption)); k_extra "TL le"))
  k_with "TL@ call builtin:max cons nil" => ((k_here; (with_reducible show wpAny _ _ (call (Value.builtin "max") [Value.float _ _, Value.float _ _, Value.float _ _]) _ _ _); k_dflt (refine' max3_N ?h ?F ?N ?_; (case h => exact rfl); (case F => k_asm); (case N => k_asm); k_whole); intro hq9' tkq9' tq9' htkq9' hxq9' Fq9' Nq9'; (try dsimp only at htkq9'); (try k_sweep)))
  k_with "TL@ call builtin:min cons nil" => ((k_here; (with_reducible show wpAny _ _ (call (Value.builtin "min") [Value.float _ _, Value.float _ _, Value.float _ _]) _ _ _); k_dflt (refine' min3_N ?h ?F ?N ?_; (case h => exact rfl); (case F => k_asm); (case N => k_asm); k_whole); intro hq9' tkq9' tq9' htkq9' hxq9' Fq9' Nq9'; (try dsimp only at htkq9'); (try k_sweep)))
  k_with "TL@ execs cons" => ((k_here; (with_reducible refine gen_add ?_); intro tkq9 htkq9; (try dsimp only at htkq9); (try dsimp only)))
  k_with "TL@ execs nil" => ((k_here; (with_reducible refine gen_add ?_); intro tkq9 htkq9; (try dsimp only at htkq9); (try dsimp only)))
  intro dp un gd cn cs a ccd cl outer A₀ base h₀ L m s Q E B F X N T hk hdp hu hret
  ((refine wpAny_call ?_; k_dflt (refine' code_def ?k1 ?k2 ?k3 ?k4 ?k5 ?kA ?kF ?kK ?k6 ?k7 ?k8 ?k9 ?kB ?_ ?c2 ?c3 ?c4 ?c5; (case kA => exact rfl); (case kF => exact rfl); (case kK => assumption); (case k1 => k_asm); (case k2 => k_asm); (case k3 => k_asm); (case k4 => k_asm); (case k5 => k_asm); (case k6 => k_is); (case k7 => k_is); (case k8 => ktr_room); (case k9 => exact BindsTo.of_eq rfl); (case c5 => decide); (case kB => exact locs rfl); (case c2 => exact rfl); (case c3 => exact rfl); (case c4 => exact rfl); k_whole; intro gq9' Lq9' hq9' FGq9' Fq9' Nq9' Bq9' Xq9' Tq9'; (try dsimp only); (try k_lift Bq9'); (try k_fold))))
  generalize htk : HAdd.hAdd s.toks (List.length _) = tk
  have htk0 : s.toks + 1 ≤ tk := by rw [← htk]; exact Nat.lt_add_of_pos_right (Nat.zero_lt_succ _)
  clear htk
  w_strict (k_steps; all_goals first
    | (refine ret_tt hret ?_ (by assumption) (by assumption) (by assumption) (by (try dsimp only); unfold TokT; refine ⟨?_, ?_, ?_, ?_, ?_, ?_, ?_⟩ <;> first | (k_extra "TL le") | (refine lt_le ?_; k_extra "TL le") | exact Nat.succ_ne_zero _ | exact ne0_of (by assumption) | exact tok3 (by assumption) h1 h2 h3 | omega); simp only [hsvOf, *, if_true, if_false, Bool.false_eq_true])
    | (exfalso; simp [hsvPre, *] at hp))

def fsum (r g b : UInt64) : UInt64 := Float64.add (fmax r g b) (fmin r g b)
def frng (r g b : UInt64) : UInt64 := Float64.sub (fmax r g b) (fmin r g b)
def hlsOf (r g b : UInt64) : UInt64 × UInt64 × UInt64 :=
  if (Float64.cmp (fmin r g b) (fmax r g b) == some .eq) = true then (0, Float64.div (Float64.add (fmax r g b) (fmin r g b)) 4611686018427387904, 0) else
    ((Float64.divmod (Float64.div
      (if (Float64.cmp r (fmax r g b) == some .eq) = true then
        Float64.sub (Float64.div (Float64.sub (fmax r g b) b) (Float64.sub (fmax r g b) (fmin r g b))) (Float64.div (Float64.sub (fmax r g b) g) (Float64.sub (fmax r g b) (fmin r g b)))
      else if (Float64.cmp g (fmax r g b) == some .eq) = true then
        Float64.sub (Float64.add 4611686018427387904 (Float64.div (Float64.sub (fmax r g b) r) (Float64.sub (fmax r g b) (fmin r g b)))) (Float64.div (Float64.sub (fmax r g b) b) (Float64.sub (fmax r g b) (fmin r g b)))
      else
        Float64.sub (Float64.add 4616189618054758400 (Float64.div (Float64.sub (fmax r g b) g) (Float64.sub (fmax r g b) (fmin r g b)))) (Float64.div (Float64.sub (fmax r g b) r) (Float64.sub (fmax r g b) (fmin r g b)))) 4618441417868443648) 4607182418800017408).2,
     Float64.div (Float64.add (fmax r g b) (fmin r g b)) 4611686018427387904,
     if (Float64.cmp (Float64.div (Float64.add (fmax r g b) (fmin r g b)) 4611686018427387904) 4602678819172646912 == some .lt || Float64.cmp (Float64.div (Float64.add (fmax r g b) (fmin r g b)) 4611686018427387904) 4602678819172646912 == some .eq) = true then
       Float64.div (Float64.sub (fmax r g b) (fmin r g b)) (Float64.add (fmax r g b) (fmin r g b))
     else Float64.div (Float64.sub (fmax r g b) (fmin r g b)) (Float64.sub (Float64.sub 4611686018427387904 (fmax r g b)) (fmin r g b)))
def hlsPre (r g b : UInt64) : Bool := (Float64.cmp (fmin r g b) (fmax r g b) == some .eq) || (!Float64.isZero (Float64.add (fmax r g b) (fmin r g b)) && !Float64.isZero (Float64.sub (fmax r g b) (fmin r g b)) && !Float64.isZero (Float64.sub (Float64.sub 4611686018427387904 (fmax r g b)) (fmin r g b)))

theorem rgb_to_hls_con (w : World) (mean : ExcName → Option Value) (mg mb : Str → Option Value) (news : List (Addr × Obj)) (r g b : UInt64) (t1 t2 t3 : Tok) (hp : hlsPre r g b = true) (h1 : t1 ≠ 0) (h2 : t2 ≠ 0) (h3 : t3 ≠ 0) :
   Con w mean mg mb 94 1 news [.float r t1, .float g t2, .float b t3] (RetTL news (hlsOf r g b)) := by
  unfold Con
  k_fill
  w_top on
  w_on
  k_with_none
  k_with "TL lt0" => (first | (with_reducible assumption) | (refine lt_t ?_ (by with_reducible assumption); k_extra "TL lt0") | (with_reducible exact And.left (by assumption)) | (with_reducible exact And.left (And.right (by assumption))) | (with_reducible exact And.left (And.right (And.right (by assumption)))) | (with_reducible exact And.left (And.right (And.right (And.right (by assumption))))) | (with_reducible exact And.left (And.right (And.right (And.right (And.right (by assumption)))))) | (with_reducible exact And.left (And.right (And.right (And.right (And.right (And.right (by assumption))))))) | (with_reducible exact And.left (And.right (And.right (And.right (And.right (And.right (And.right (by assumption)))))))) | (with_reducible exact And.left (And.right (And.right (And.right (And.right (And.right (And.right (And.right (by assumption))))))))) | (with_reducible exact And.left (And.right (And.right (And.right (And.right (And.right (And.right (And.right (And.right (by assumption)))))))))) | (with_reducible exact And.left (And.right (And.right (And.right (And.right (And.right (And.right (And.right (And.right (And.right (by assumption))))))))))) | (with_reducible exact And.left (And.right (And.right (And.right (And.right (And.right (And.right (And.right (And.right (And.right (And.right (by assumption)))))))))))) | (with_reducible exact And.left (And.right (And.right (And.right (And.right (And.right (And.right (And.right (And.right (And.right (And.right (And.right (by assumption))))))))))))) | (with_reducible exact And.left (And.right (And.right (And.right (And.right (And.right (And.right (And.right (And.right (And.right (And.right (And.right (And.right (by assumption)))))))))))))) | (with_reducible exact And.left (And.right (And.right (And.right (And.right (And.right (And.right (And.right (And.right (And.right (And.right (And.right (And.right (And.right (by assumption))))))))))))))) | (with_reducible exact And.left (And.right (And.right (And.right (And.right (And.right (And.right (And.right (And.right (And.right (And.right (And.right (And.right (And.right (And.right (by assumption)))))))))))))))) | (with_reducible exact And.left (And.right (And.right (And.right (And.right (And.right (And.right (And.right (And.right (And.right (And.right (And.right (And.right (And.right (And.right (And.right (by assumption))))))))))))))))) | (with_reducible exact And.left (And.right (And.right (And.right (And.right (And.right (And.right (And.right (And.right (And.right (And.right (And.right (And.right (And.right (And.right (And.right (And.right (by assumption)))))))))))))))))) | (with_reducible exact And.left (And.right (And.right (And.right (And.right (And.right (And.right (And.right (And.right (And.right (And.right (And.right (And.right (And.right (And.right (And.right (And.right (And.right (by assumption))))))))))))))))))) | (with_reducible exact And.left (And.right (And.right (And.right (And.right (And.right (And.right (And.right (And.right (And.right (And.right (And.right (And.right (And.right (And.right (And.right (And.right (And.right (And.right (by assumption)))))))))))))))))))) | (with_reducible exact And.left (And.right (And.right (And.right (And.right (And.right (And.right (And.right (And.right (And.right (And.right (And.right (And.right (And.right (And.right (And.right (And.right (And.right (And.right (And.right (by assumption))))))))))))))))))))) | (with_reducible exact And.left (And.right (And.right (And.right (And.right (And.right (And.right (And.right (And.right (And.right (And.right (And.right (And.right (And.right (And.right (And.right (And.right (And.right (And.right (And.right (And.right (by assumption)))))))))))))))))))))) | (with_reducible exact And.left (And.right (And.right (And.right (And.right (And.right (And.right (And.right (And.right (And.right (And.right (And.right (And.right (And.right (And.right (And.right (And.right (And.right (And.right (And.right (And.right (And.right (by assumption))))))))))))))))))))))) | (with_reducible exact And.left (And.right (And.right (And.right (And.right (And.right (And.right (And.right (And.right (And.right (And.right (And.right (And.right (And.right (And.right (And.right (And.right (And.right (And.right (And.right (And.right (And.right (And.right (by assumption)))))))))))))))))))))))) | (with_reducible exact And.left (And.right (And.right (And.right (And.right (And.right (And.right (And.right (And.right (And.right (And.right (And.right (And.right (And.right (And.right (And.right (And.right (And.right (And.right (And.right (And.right (And.right (And.right (And.right (by assumption))))))))))))))))))))))))) | (with_reducible exact And.right (by assumption)) | (with_reducible exact And.right (And.right (by assumption))) | (with_reducible exact And.right (And.right (And.right (by assumption)))) | (with_reducible exact And.right (And.right (And.right (And.right (by assumption))))) | (with_reducible exact And.right (And.right (And.right (And.right (And.right (by assumption)))))) | (with_reducible exact And.right (And.right (And.right (And.right (And.right (And.right (by assumption))))))) | (with_reducible exact And.right (And.right (And.right (And.right (And.right (And.right (And.right (by assumption)))))))) | (with_reducible exact And.right (And.right (And.right (And.right (And.right (And.right (And.right (And.right (by assumption))))))))) | (with_reducible exact And.right (And.right (And.right (And.right (And.right (And.right (And.right (And.right (And.right (by assumption)))))))))) | (with_reducible exact And.right (And.right (And.right (And.right (And.right (And.right (And.right (And.right (And.right (And.right (by assumption))))))))))) | (with_reducible exact And.right (And.right (And.right (And.right (And.right (And.right (And.right (And.right (And.right (And.right (And.right (by assumption)))))))))))) | (with_reducible exact And.right (And.right (And.right (And.right (And.right (And.right (And.right (And.right (And.right (And.right (And.right (And.right (by assumption))))))))))))) | (with_reducible exact And.right (And.right (And.right (And.right (And.right (And.right (And.right (And.right (And.right (And.right (And.right (And.right (And.right (by assumption)))))))))))))) | (with_reducible exact And.right (And.right (And.right (And.right (And.right (And.right (And.right (And.right (And.right (And.right (And.right (And.right (And.right (And.right (by assumption))))))))))))))) | (with_reducible exact And.right (And.right (And.right (And.right (And.right (And.right (And.right (And.right (And.right (And.right (And.right (And.right (And.right (And.right (And.right (by assumption)))))))))))))))) | (with_reducible exact And.right (And.right (And.right (And.right (And.right (And.right (And.right (And.right (And.right (And.right (And.right (And.right (And.right (And.right (And.right (And.right (by assumption))))))))))))))))) | (with_reducible exact And.right (And.right (And.right (And.right (And.right (And.right (And.right (And.right (And.right (And.right (And.right (And.right (And.right (And.right (And.right (And.right (And.right (by assumption)))))))))))))))))) | (with_reducible exact And.right (And.right (And.right (And.right (And.right (And.right (And.right (And.right (And.right (And.right (And.right (And.right (And.right (And.right (And.right (And.right (And.right (And.right (by assumption))))))))))))))))))) | (with_reducible exact And.right (And.right (And.right (And.right (And.right (And.right (And.right (And.right (And.right (And.right (And.right (And.right (And.right (And.right (And.right (And.right (And.right (And.right (And.right (by assumption)))))))))))))))))))) | (with_reducible exact And.right (And.right (And.right (And.right (And.right (And.right (And.right (And.right (And.right (And.right (And.right (And.right (And.right (And.right (And.right (And.right (And.right (And.right (And.right (And.right (by assumption))))))))))))))))))))) | (with_reducible exact And.right (And.right (And.right (And.right (And.right (And.right (And.right (And.right (And.right (And.right (And.right (And.right (And.right (And.right (And.right (And.right (And.right (And.right (And.right (And.right (And.right (by assumption)))))))))))))))))))))) | (with_reducible exact And.right (And.right (And.right (And.right (And.right (And.right (And.right (And.right (And.right (And.right (And.right (And.right (And.right (And.right (And.right (And.right (And.right (And.right (And.right (And.right (And.right (And.right (by assumption))))))))))))))))))))))) | (with_reducible exact And.right (And.right (And.right (And.right (And.right (And.right (And.right (And.right (And.right (And.right (And.right (And.right (And.right (And.right (And.right (And.right (And.right (And.right (And.right (And.right (And.right (And.right (And.right (by assumption)))))))))))))))))))))))))
  k_with "TL ne0" => (refine neN ?_; (try dsimp only); first | (with_reducible assumption) | (refine Ne.symm ?_; with_reducible assumption) | (with_reducible exact And.left (by assumption)) | (with_reducible exact And.left (And.right (by assumption))) | (with_reducible exact And.left (And.right (And.right (by assumption)))) | (with_reducible exact And.left (And.right (And.right (And.right (by assumption))))) | (with_reducible exact And.left (And.right (And.right (And.right (And.right (by assumption)))))) | (with_reducible exact And.left (And.right (And.right (And.right (And.right (And.right (by assumption))))))) | (with_reducible exact Ne.symm <| And.left (by assumption)) | (with_reducible exact Ne.symm <| And.left (And.right (by assumption))) | (with_reducible exact Ne.symm <| And.left (And.right (And.right (by assumption)))) | (with_reducible exact Ne.symm <| And.left (And.right (And.right (And.right (by assumption))))) | (with_reducible exact Ne.symm <| And.left (And.right (And.right (And.right (And.right (by assumption)))))) | (with_reducible exact Ne.symm <| And.left (And.right (And.right (And.right (And.right (And.right (by assumption))))))) | (refine ne_gt ?_; k_extra "TL lt0") | (refine ne_lt ?_; k_extra "TL lt0"))
  k_with "TL le" => (first | (with_reducible assumption) | (with_reducible exact Nat.le_refl _) | (with_reducible exact Nat.succ_le_of_lt (by assumption)) | (with_reducible exact Nat.le_of_lt (by assumption)) | (with_reducible refine le_ss ?_; k_extra "TL le") | ((fail_if_success (with_reducible refine le_ss ?_)); with_reducible refine le_s ?_; k_extra "TL le") | ((fail_if_success (with_reducible refine le_s ?_)); refine le_t ?_ (by with_reducible assumption); k_extra "TL le") | ((fail_if_success (with_reducible refine le_s ?_)); refine le_t ?_ (Nat.le_of_lt (by with_reducible assumption)); k_extra "TL le"))
  k_with "TL@ call builtin:max cons nil" => ((k_here; (with_reducible show wpAny _ _ (call (Value.builtin "max") [Value.float _ _, Value.float _ _, Value.float _ _]) _ _ _); k_dflt (refine' max3_N ?h ?F ?N ?_; (case h => exact rfl); (case F => k_asm); (case N => k_asm); k_whole); intro hq9' tkq9' tq9' htkq9' hxq9' Fq9' Nq9'; (try dsimp only at htkq9'); (try k_sweep)))
  k_with "TL@ call builtin:min cons nil" => ((k_here; (with_reducible show wpAny _ _ (call (Value.builtin "min") [Value.float _ _, Value.float _ _, Value.float _ _]) _ _ _); k_dflt (refine' min3_N ?h ?F ?N ?_; (case h => exact rfl); (case F => k_asm); (case N => k_asm); k_whole); intro hq9' tkq9' tq9' htkq9' hxq9' Fq9' Nq9'; (try dsimp only at htkq9'); (try k_sweep)))
  k_with "TL@ execs cons" => ((k_here; (with_reducible refine gen_add ?_); intro tkq9 htkq9; (try dsimp only at htkq9); (try dsimp only)))
  k_with "TL@ execs nil" => ((k_here; (with_reducible refine gen_add ?_); intro tkq9 htkq9; (try dsimp only at htkq9); (try dsimp only)))
  intro dp un gd cn cs a ccd cl outer A₀ base h₀ L m s Q E B F X N T hk hdp hu hret
  ((refine wpAny_call ?_; k_dflt (refine' code_def ?k1 ?k2 ?k3 ?k4 ?k5 ?kA ?kF ?kK ?k6 ?k7 ?k8 ?k9 ?kB ?_ ?c2 ?c3 ?c4 ?c5; (case kA => exact rfl); (case kF => exact rfl); (case kK => assumption); (case k1 => k_asm); (case k2 => k_asm); (case k3 => k_asm); (case k4 => k_asm); (case k5 => k_asm); (case k6 => k_is); (case k7 => k_is); (case k8 => ktr_room); (case k9 => exact BindsTo.of_eq rfl); (case c5 => decide); (case kB => exact locs rfl); (case c2 => exact rfl); (case c3 => exact rfl); (case c4 => exact rfl); k_whole; intro gq9' Lq9' hq9' FGq9' Fq9' Nq9' Bq9' Xq9' Tq9'; (try dsimp only); (try k_lift Bq9'); (try k_fold))))
  generalize htk : HAdd.hAdd s.toks (List.length _) = tk
  have htk0 : s.toks + 1 ≤ tk := by rw [← htk]; exact Nat.lt_add_of_pos_right (Nat.zero_lt_succ _)
  clear htk
  w_strict (k_steps; all_goals first
    | (refine ret_tl hret ?_ (by assumption) (by assumption) (by assumption) (by (try dsimp only); unfold TokT; refine ⟨?_, ?_, ?_, ?_, ?_, ?_, ?_⟩ <;> first | (k_extra "TL le") | (refine lt_le ?_; k_extra "TL le") | exact Nat.succ_ne_zero _ | exact ne0_of (by assumption) | exact tok3 (by assumption) h1 h2 h3 | omega); simp only [hlsOf, *, if_true, if_false, Bool.false_eq_true]; done)
    | (exfalso; simp [hlsPre, *] at hp; done))
end TL
end

section
open PySem PySem.W PySem.Spec PySem.Calls PyProof.Rows
set_option maxRecDepth 100000
set_option maxHeartbeats 8000000
namespace TL

def vOf (m1 m2 hue : UInt64) : UInt64 :=
  if (Float64.cmp (Float64.divmod hue 4607182418800017408).2 4595172819793696085 == some .lt) = true then
    Float64.add m1 (Float64.mul (Float64.mul (Float64.sub m2 m1) (Float64.divmod hue 4607182418800017408).2) 4618441417868443648)
  else if (Float64.cmp (Float64.divmod hue 4607182418800017408).2 4602678819172646912 == some .lt) = true then m2
  else if (Float64.cmp (Float64.divmod hue 4607182418800017408).2 4604180019048437077 == some .lt) = true then
    Float64.add m1 (Float64.mul (Float64.mul (Float64.sub m2 m1) (Float64.sub 4604180019048437077 (Float64.divmod hue 4607182418800017408).2)) 4618441417868443648)
  else m1

theorem v_con (w : World) (mean : ExcName → Option Value) (mg mb : Str → Option Value) (news : List (Addr × Obj)) (m1 m2 hue : UInt64) (t1 t2 t3 : Tok) :
   Con w mean mg mb 108 1 news [.float m1 t1, .float m2 t2, .float hue t3] (RetV news (.float (vOf m1 m2 hue))) := by
  unfold Con
  k_fill
  w_top on
  w_on
  k_with_none
  k_with "TL lt0" => (first | (with_reducible assumption) | (refine lt_t ?_ (by with_reducible assumption); k_extra "TL lt0") | (with_reducible exact And.left (by assumption)) | (with_reducible exact And.left (And.right (by assumption))) | (with_reducible exact And.left (And.right (And.right (by assumption)))) | (with_reducible exact And.left (And.right (And.right (And.right (by assumption))))) | (with_reducible exact And.left (And.right (And.right (And.right (And.right (by assumption)))))) | (with_reducible exact And.left (And.right (And.right (And.right (And.right (And.right (by assumption))))))) | (with_reducible exact And.left (And.right (And.right (And.right (And.right (And.right (And.right (by assumption)))))))) | (with_reducible exact And.left (And.right (And.right (And.right (And.right (And.right (And.right (And.right (by assumption))))))))) | (with_reducible exact And.left (And.right (And.right (And.right (And.right (And.right (And.right (And.right (And.right (by assumption)))))))))) | (with_reducible exact And.left (And.right (And.right (And.right (And.right (And.right (And.right (And.right (And.right (And.right (by assumption))))))))))) | (with_reducible exact And.left (And.right (And.right (And.right (And.right (And.right (And.right (And.right (And.right (And.right (And.right (by assumption)))))))))))) | (with_reducible exact And.left (And.right (And.right (And.right (And.right (And.right (And.right (And.right (And.right (And.right (And.right (And.right (by assumption))))))))))))) | (with_reducible exact And.left (And.right (And.right (And.right (And.right (And.right (And.right (And.right (And.right (And.right (And.right (And.right (And.right (by assumption)))))))))))))) | (with_reducible exact And.left (And.right (And.right (And.right (And.right (And.right (And.right (And.right (And.right (And.right (And.right (And.right (And.right (And.right (by assumption))))))))))))))) | (with_reducible exact And.left (And.right (And.right (And.right (And.right (And.right (And.right (And.right (And.right (And.right (And.right (And.right (And.right (And.right (And.right (by assumption)))))))))))))))) | (with_reducible exact And.left (And.right (And.right (And.right (And.right (And.right (And.right (And.right (And.right (And.right (And.right (And.right (And.right (And.right (And.right (And.right (by assumption))))))))))))))))) | (with_reducible exact And.left (And.right (And.right (And.right (And.right (And.right (And.right (And.right (And.right (And.right (And.right (And.right (And.right (And.right (And.right (And.right (And.right (by assumption)))))))))))))))))) | (with_reducible exact And.left (And.right (And.right (And.right (And.right (And.right (And.right (And.right (And.right (And.right (And.right (And.right (And.right (And.right (And.right (And.right (And.right (And.right (by assumption))))))))))))))))))) | (with_reducible exact And.left (And.right (And.right (And.right (And.right (And.right (And.right (And.right (And.right (And.right (And.right (And.right (And.right (And.right (And.right (And.right (And.right (And.right (And.right (by assumption)))))))))))))))))))) | (with_reducible exact And.left (And.right (And.right (And.right (And.right (And.right (And.right (And.right (And.right (And.right (And.right (And.right (And.right (And.right (And.right (And.right (And.right (And.right (And.right (And.right (by assumption))))))))))))))))))))) | (with_reducible exact And.left (And.right (And.right (And.right (And.right (And.right (And.right (And.right (And.right (And.right (And.right (And.right (And.right (And.right (And.right (And.right (And.right (And.right (And.right (And.right (And.right (by assumption)))))))))))))))))))))) | (with_reducible exact And.left (And.right (And.right (And.right (And.right (And.right (And.right (And.right (And.right (And.right (And.right (And.right (And.right (And.right (And.right (And.right (And.right (And.right (And.right (And.right (And.right (And.right (by assumption))))))))))))))))))))))) | (with_reducible exact And.left (And.right (And.right (And.right (And.right (And.right (And.right (And.right (And.right (And.right (And.right (And.right (And.right (And.right (And.right (And.right (And.right (And.right (And.right (And.right (And.right (And.right (And.right (by assumption)))))))))))))))))))))))) | (with_reducible exact And.left (And.right (And.right (And.right (And.right (And.right (And.right (And.right (And.right (And.right (And.right (And.right (And.right (And.right (And.right (And.right (And.right (And.right (And.right (And.right (And.right (And.right (And.right (And.right (by assumption))))))))))))))))))))))))) | (with_reducible exact And.right (by assumption)) | (with_reducible exact And.right (And.right (by assumption))) | (with_reducible exact And.right (And.right (And.right (by assumption)))) | (with_reducible exact And.right (And.right (And.right (And.right (by assumption))))) | (with_reducible exact And.right (And.right (And.right (And.right (And.right (by assumption)))))) | (with_reducible exact And.right (And.right (And.right (And.right (And.right (And.right (by assumption))))))) | (with_reducible exact And.right (And.right (And.right (And.right (And.right (And.right (And.right (by assumption)))))))) | (with_reducible exact And.right (And.right (And.right (And.right (And.right (And.right (And.right (And.right (by assumption))))))))) | (with_reducible exact And.right (And.right (And.right (And.right (And.right (And.right (And.right (And.right (And.right (by assumption)))))))))) | (with_reducible exact And.right (And.right (And.right (And.right (And.right (And.right (And.right (And.right (And.right (And.right (by assumption))))))))))) | (with_reducible exact And.right (And.right (And.right (And.right (And.right (And.right (And.right (And.right (And.right (And.right (And.right (by assumption)))))))))))) | (with_reducible exact And.right (And.right (And.right (And.right (And.right (And.right (And.right (And.right (And.right (And.right (And.right (And.right (by assumption))))))))))))) | (with_reducible exact And.right (And.right (And.right (And.right (And.right (And.right (And.right (And.right (And.right (And.right (And.right (And.right (And.right (by assumption)))))))))))))) | (with_reducible exact And.right (And.right (And.right (And.right (And.right (And.right (And.right (And.right (And.right (And.right (And.right (And.right (And.right (And.right (by assumption))))))))))))))) | (with_reducible exact And.right (And.right (And.right (And.right (And.right (And.right (And.right (And.right (And.right (And.right (And.right (And.right (And.right (And.right (And.right (by assumption)))))))))))))))) | (with_reducible exact And.right (And.right (And.right (And.right (And.right (And.right (And.right (And.right (And.right (And.right (And.right (And.right (And.right (And.right (And.right (And.right (by assumption))))))))))))))))) | (with_reducible exact And.right (And.right (And.right (And.right (And.right (And.right (And.right (And.right (And.right (And.right (And.right (And.right (And.right (And.right (And.right (And.right (And.right (by assumption)))))))))))))))))) | (with_reducible exact And.right (And.right (And.right (And.right (And.right (And.right (And.right (And.right (And.right (And.right (And.right (And.right (And.right (And.right (And.right (And.right (And.right (And.right (by assumption))))))))))))))))))) | (with_reducible exact And.right (And.right (And.right (And.right (And.right (And.right (And.right (And.right (And.right (And.right (And.right (And.right (And.right (And.right (And.right (And.right (And.right (And.right (And.right (by assumption)))))))))))))))))))) | (with_reducible exact And.right (And.right (And.right (And.right (And.right (And.right (And.right (And.right (And.right (And.right (And.right (And.right (And.right (And.right (And.right (And.right (And.right (And.right (And.right (And.right (by assumption))))))))))))))))))))) | (with_reducible exact And.right (And.right (And.right (And.right (And.right (And.right (And.right (And.right (And.right (And.right (And.right (And.right (And.right (And.right (And.right (And.right (And.right (And.right (And.right (And.right (And.right (by assumption)))))))))))))))))))))) | (with_reducible exact And.right (And.right (And.right (And.right (And.right (And.right (And.right (And.right (And.right (And.right (And.right (And.right (And.right (And.right (And.right (And.right (And.right (And.right (And.right (And.right (And.right (And.right (by assumption))))))))))))))))))))))) | (with_reducible exact And.right (And.right (And.right (And.right (And.right (And.right (And.right (And.right (And.right (And.right (And.right (And.right (And.right (And.right (And.right (And.right (And.right (And.right (And.right (And.right (And.right (And.right (And.right (by assumption)))))))))))))))))))))))))
  k_with "TL ne0" => (refine neN ?_; (try dsimp only); first | (with_reducible assumption) | (refine Ne.symm ?_; with_reducible assumption) | (with_reducible exact And.left (by assumption)) | (with_reducible exact And.left (And.right (by assumption))) | (with_reducible exact And.left (And.right (And.right (by assumption)))) | (with_reducible exact And.left (And.right (And.right (And.right (by assumption))))) | (with_reducible exact And.left (And.right (And.right (And.right (And.right (by assumption)))))) | (with_reducible exact And.left (And.right (And.right (And.right (And.right (And.right (by assumption))))))) | (with_reducible exact Ne.symm <| And.left (by assumption)) | (with_reducible exact Ne.symm <| And.left (And.right (by assumption))) | (with_reducible exact Ne.symm <| And.left (And.right (And.right (by assumption)))) | (with_reducible exact Ne.symm <| And.left (And.right (And.right (And.right (by assumption))))) | (with_reducible exact Ne.symm <| And.left (And.right (And.right (And.right (And.right (by assumption)))))) | (with_reducible exact Ne.symm <| And.left (And.right (And.right (And.right (And.right (And.right (by assumption))))))) | (refine ne_gt ?_; k_extra "TL lt0") | (refine ne_lt ?_; k_extra "TL lt0"))
  k_with "TL le" => (first | (with_reducible assumption) | (with_reducible exact Nat.le_refl _) | (with_reducible exact Nat.succ_le_of_lt (by assumption)) | (with_reducible exact Nat.le_of_lt (by assumption)) | (with_reducible refine le_ss ?_; k_extra "TL le") | ((fail_if_success (with_reducible refine le_ss ?_)); with_reducible refine le_s ?_; k_extra "TL le") | ((fail_if_success (with_reducible refine le_s ?_)); refine le_t ?_ (by with_reducible assumption); k_extra "TL le") | ((fail_if_success (with_reducible refine le_s ?_)); refine le_t ?_ (Nat.le_of_lt (by with_reducible assumption)); k_extra "TL le"))
  intro dp un gd cn cs a ccd cl outer A₀ base h₀ L m s Q E B F X N T hk hdp hu hret
  refine wpAny_call ?_
  k_dflt cell_enter
  w_strict (k_steps; all_goals first
    | (refine ret_f hret ?_ (by assumption) (by assumption); simp only [vOf, *, if_true, if_false, Bool.false_eq_true]; done))


def hlsRgb (h l s : UInt64) : UInt64 × UInt64 × UInt64 :=
  if (Float64.cmp s 0 == some .eq) = true then (l, l, l) else
    if (Float64.cmp l 4602678819172646912 == some .lt || Float64.cmp l 4602678819172646912 == some .eq) = true then
      (vOf (Float64.sub (Float64.mul 4611686018427387904 l) (Float64.mul l (Float64.add 4607182418800017408 s))) (Float64.mul l (Float64.add 4607182418800017408 s)) (Float64.add h 4599676419421066581),
       vOf (Float64.sub (Float64.mul 4611686018427387904 l) (Float64.mul l (Float64.add 4607182418800017408 s))) (Float64.mul l (Float64.add 4607182418800017408 s)) h,
       vOf (Float64.sub (Float64.mul 4611686018427387904 l) (Float64.mul l (Float64.add 4607182418800017408 s))) (Float64.mul l (Float64.add 4607182418800017408 s)) (Float64.sub h 4599676419421066581))
    else
      (vOf (Float64.sub (Float64.mul 4611686018427387904 l) (Float64.sub (Float64.add l s) (Float64.mul l s))) (Float64.sub (Float64.add l s) (Float64.mul l s)) (Float64.add h 4599676419421066581),
       vOf (Float64.sub (Float64.mul 4611686018427387904 l) (Float64.sub (Float64.add l s) (Float64.mul l s))) (Float64.sub (Float64.add l s) (Float64.mul l s)) h,
       vOf (Float64.sub (Float64.mul 4611686018427387904 l) (Float64.sub (Float64.add l s) (Float64.mul l s))) (Float64.sub (Float64.add l s) (Float64.mul l s)) (Float64.sub h 4599676419421066581))

theorem hls_to_rgb_con (w : World) (mean : ExcName → Option Value) (mg mb : Str → Option Value) (news : List (Addr × Obj)) (h l sa : UInt64) (t1 t2 t3 : Tok) :
   Con w mean mg mb 101 2 news [.float h t1, .float l t2, .float sa t3] (RetT news (hlsRgb h l sa)) := by
  unfold Con
  k_fill
  w_top on
  w_on
  k_with_none
  k_with "TL lt0" => (first | (with_reducible assumption) | (refine lt_t ?_ (by with_reducible assumption); k_extra "TL lt0") | (with_reducible exact And.left (by assumption)) | (with_reducible exact And.left (And.right (by assumption))) | (with_reducible exact And.left (And.right (And.right (by assumption)))) | (with_reducible exact And.left (And.right (And.right (And.right (by assumption))))) | (with_reducible exact And.left (And.right (And.right (And.right (And.right (by assumption)))))) | (with_reducible exact And.left (And.right (And.right (And.right (And.right (And.right (by assumption))))))) | (with_reducible exact And.left (And.right (And.right (And.right (And.right (And.right (And.right (by assumption)))))))) | (with_reducible exact And.left (And.right (And.right (And.right (And.right (And.right (And.right (And.right (by assumption))))))))) | (with_reducible exact And.left (And.right (And.right (And.right (And.right (And.right (And.right (And.right (And.right (by assumption)))))))))) | (with_reducible exact And.left (And.right (And.right (And.right (And.right (And.right (And.right (And.right (And.right (And.right (by assumption))))))))))) | (with_reducible exact And.left (And.right (And.right (And.right (And.right (And.right (And.right (And.right (And.right (And.right (And.right (by assumption)))))))))))) | (with_reducible exact And.left (And.right (And.right (And.right (And.right (And.right (And.right (And.right (And.right (And.right (And.right (And.right (by assumption))))))))))))) | (with_reducible exact And.left (And.right (And.right (And.right (And.right (And.right (And.right (And.right (And.right (And.right (And.right (And.right (And.right (by assumption)))))))))))))) | (with_reducible exact And.left (And.right (And.right (And.right (And.right (And.right (And.right (And.right (And.right (And.right (And.right (And.right (And.right (And.right (by assumption))))))))))))))) | (with_reducible exact And.left (And.right (And.right (And.right (And.right (And.right (And.right (And.right (And.right (And.right (And.right (And.right (And.right (And.right (And.right (by assumption)))))))))))))))) | (with_reducible exact And.left (And.right (And.right (And.right (And.right (And.right (And.right (And.right (And.right (And.right (And.right (And.right (And.right (And.right (And.right (And.right (by assumption))))))))))))))))) | (with_reducible exact And.left (And.right (And.right (And.right (And.right (And.right (And.right (And.right (And.right (And.right (And.right (And.right (And.right (And.right (And.right (And.right (And.right (by assumption)))))))))))))))))) | (with_reducible exact And.left (And.right (And.right (And.right (And.right (And.right (And.right (And.right (And.right (And.right (And.right (And.right (And.right (And.right (And.right (And.right (And.right (And.right (by assumption))))))))))))))))))) | (with_reducible exact And.left (And.right (And.right (And.right (And.right (And.right (And.right (And.right (And.right (And.right (And.right (And.right (And.right (And.right (And.right (And.right (And.right (And.right (And.right (by assumption)))))))))))))))))))) | (with_reducible exact And.left (And.right (And.right (And.right (And.right (And.right (And.right (And.right (And.right (And.right (And.right (And.right (And.right (And.right (And.right (And.right (And.right (And.right (And.right (And.right (by assumption))))))))))))))))))))) | (with_reducible exact And.left (And.right (And.right (And.right (And.right (And.right (And.right (And.right (And.right (And.right (And.right (And.right (And.right (And.right (And.right (And.right (And.right (And.right (And.right (And.right (And.right (by assumption)))))))))))))))))))))) | (with_reducible exact And.left (And.right (And.right (And.right (And.right (And.right (And.right (And.right (And.right (And.right (And.right (And.right (And.right (And.right (And.right (And.right (And.right (And.right (And.right (And.right (And.right (And.right (by assumption))))))))))))))))))))))) | (with_reducible exact And.left (And.right (And.right (And.right (And.right (And.right (And.right (And.right (And.right (And.right (And.right (And.right (And.right (And.right (And.right (And.right (And.right (And.right (And.right (And.right (And.right (And.right (And.right (by assumption)))))))))))))))))))))))) | (with_reducible exact And.left (And.right (And.right (And.right (And.right (And.right (And.right (And.right (And.right (And.right (And.right (And.right (And.right (And.right (And.right (And.right (And.right (And.right (And.right (And.right (And.right (And.right (And.right (And.right (by assumption))))))))))))))))))))))))) | (with_reducible exact And.right (by assumption)) | (with_reducible exact And.right (And.right (by assumption))) | (with_reducible exact And.right (And.right (And.right (by assumption)))) | (with_reducible exact And.right (And.right (And.right (And.right (by assumption))))) | (with_reducible exact And.right (And.right (And.right (And.right (And.right (by assumption)))))) | (with_reducible exact And.right (And.right (And.right (And.right (And.right (And.right (by assumption))))))) | (with_reducible exact And.right (And.right (And.right (And.right (And.right (And.right (And.right (by assumption)))))))) | (with_reducible exact And.right (And.right (And.right (And.right (And.right (And.right (And.right (And.right (by assumption))))))))) | (with_reducible exact And.right (And.right (And.right (And.right (And.right (And.right (And.right (And.right (And.right (by assumption)))))))))) | (with_reducible exact And.right (And.right (And.right (And.right (And.right (And.right (And.right (And.right (And.right (And.right (by assumption))))))))))) | (with_reducible exact And.right (And.right (And.right (And.right (And.right (And.right (And.right (And.right (And.right (And.right (And.right (by assumption)))))))))))) | (with_reducible exact And.right (And.right (And.right (And.right (And.right (And.right (And.right (And.right (And.right (And.right (And.right (And.right (by assumption))))))))))))) | (with_reducible exact And.right (And.right (And.right (And.right (And.right (And.right (And.right (And.right (And.right (And.right (And.right (And.right (And.right (by assumption)))))))))))))) | (with_reducible exact And.right (And.right (And.right (And.right (And.right (And.right (And.right (And.right (And.right (And.right (And.right (And.right (And.right (And.right (by assumption))))))))))))))) | (with_reducible exact And.right (And.right (And.right (And.right (And.right (And.right (And.right (And.right (And.right (And.right (And.right (And.right (And.right (And.right (And.right (by assumption)))))))))))))))) | (with_reducible exact And.right (And.right (And.right (And.right (And.right (And.right (And.right (And.right (And.right (And.right (And.right (And.right (And.right (And.right (And.right (And.right (by assumption))))))))))))))))) | (with_reducible exact And.right (And.right (And.right (And.right (And.right (And.right (And.right (And.right (And.right (And.right (And.right (And.right (And.right (And.right (And.right (And.right (And.right (by assumption)))))))))))))))))) | (with_reducible exact And.right (And.right (And.right (And.right (And.right (And.right (And.right (And.right (And.right (And.right (And.right (And.right (And.right (And.right (And.right (And.right (And.right (And.right (by assumption))))))))))))))))))) | (with_reducible exact And.right (And.right (And.right (And.right (And.right (And.right (And.right (And.right (And.right (And.right (And.right (And.right (And.right (And.right (And.right (And.right (And.right (And.right (And.right (by assumption)))))))))))))))))))) | (with_reducible exact And.right (And.right (And.right (And.right (And.right (And.right (And.right (And.right (And.right (And.right (And.right (And.right (And.right (And.right (And.right (And.right (And.right (And.right (And.right (And.right (by assumption))))))))))))))))))))) | (with_reducible exact And.right (And.right (And.right (And.right (And.right (And.right (And.right (And.right (And.right (And.right (And.right (And.right (And.right (And.right (And.right (And.right (And.right (And.right (And.right (And.right (And.right (by assumption)))))))))))))))))))))) | (with_reducible exact And.right (And.right (And.right (And.right (And.right (And.right (And.right (And.right (And.right (And.right (And.right (And.right (And.right (And.right (And.right (And.right (And.right (And.right (And.right (And.right (And.right (And.right (by assumption))))))))))))))))))))))) | (with_reducible exact And.right (And.right (And.right (And.right (And.right (And.right (And.right (And.right (And.right (And.right (And.right (And.right (And.right (And.right (And.right (And.right (And.right (And.right (And.right (And.right (And.right (And.right (And.right (by assumption)))))))))))))))))))))))))
  k_with "TL ne0" => (refine neN ?_; (try dsimp only); first | (with_reducible assumption) | (refine Ne.symm ?_; with_reducible assumption) | (with_reducible exact And.left (by assumption)) | (with_reducible exact And.left (And.right (by assumption))) | (with_reducible exact And.left (And.right (And.right (by assumption)))) | (with_reducible exact And.left (And.right (And.right (And.right (by assumption))))) | (with_reducible exact And.left (And.right (And.right (And.right (And.right (by assumption)))))) | (with_reducible exact And.left (And.right (And.right (And.right (And.right (And.right (by assumption))))))) | (with_reducible exact Ne.symm <| And.left (by assumption)) | (with_reducible exact Ne.symm <| And.left (And.right (by assumption))) | (with_reducible exact Ne.symm <| And.left (And.right (And.right (by assumption)))) | (with_reducible exact Ne.symm <| And.left (And.right (And.right (And.right (by assumption))))) | (with_reducible exact Ne.symm <| And.left (And.right (And.right (And.right (And.right (by assumption)))))) | (with_reducible exact Ne.symm <| And.left (And.right (And.right (And.right (And.right (And.right (by assumption))))))) | (refine ne_gt ?_; k_extra "TL lt0") | (refine ne_lt ?_; k_extra "TL lt0"))
  k_with "TL le" => (first | (with_reducible assumption) | (with_reducible exact Nat.le_refl _) | (with_reducible exact Nat.succ_le_of_lt (by assumption)) | (with_reducible exact Nat.le_of_lt (by assumption)) | (with_reducible refine le_ss ?_; k_extra "TL le") | ((fail_if_success (with_reducible refine le_ss ?_)); with_reducible refine le_s ?_; k_extra "TL le") | ((fail_if_success (with_reducible refine le_s ?_)); refine le_t ?_ (by with_reducible assumption); k_extra "TL le") | ((fail_if_success (with_reducible refine le_s ?_)); refine le_t ?_ (Nat.le_of_lt (by with_reducible assumption)); k_extra "TL le"))
  k_with "TL@ call ref" => ((k_here; (with_reducible show wpAny _ _ (call (Value.ref 108) _) _ _ _); k_dflt (refine' Con.use (v_con _ _ _ _ _ _ _ _ _ _ _) ?k1 ?k2 ?k3 ?k4 ?k5 ?kK ?kd ?ku ?_; (case k1 => k_asm); (case k2 => k_asm); (case k3 => k_asm); (case k4 => k_asm); (case k5 => k_asm); (case kK => first | exact rfl | assumption); (case kd => ktr_room); (case ku => ktr_units); k_whole); intro tq9' hq9' tkq9' Fq9' Nq9'; (try dsimp only); (try k_sweep)))
  intro dp un gd cn cs a ccd cl outer A₀ base h₀ L m s Q E B F X N T hk hdp hu hret
  refine wpAny_call ?_
  k_dflt cell_enter
  w_strict (k_steps; all_goals first
    | (refine ret_t hret ?_ (by assumption) (by assumption) (by assumption); simp only [hlsRgb, *, if_true, if_false, Bool.false_eq_true]; done))


/-- the sector, the place in it -/
def hsvI (h : UInt64) : Int := Flt.toInt Float64.truncOf (Float64.mul h 4618441417868443648)
def hsvFr (h : UInt64) : UInt64 := Float64.sub (Float64.mul h 4618441417868443648) (Float64.ofInt (hsvI h))
def hsvP (s v : UInt64) : UInt64 := Float64.mul v (Float64.sub 4607182418800017408 s)
def hsvQ (h s v : UInt64) : UInt64 := Float64.mul v (Float64.sub 4607182418800017408 (Float64.mul s (hsvFr h)))
def hsvT (h s v : UInt64) : UInt64 := Float64.mul v (Float64.sub 4607182418800017408 (Float64.mul s (Float64.sub 4607182418800017408 (hsvFr h))))
def hsvRgb (h s v : UInt64) : UInt64 × UInt64 × UInt64 :=
  if (Float64.cmp s 0 == some .eq) = true then (v, v, v) else
  if (hsvI h).fmod 6 = 0 then (v, hsvT h s v, hsvP s v) else
  if (hsvI h).fmod 6 = 1 then (hsvQ h s v, v, hsvP s v) else
  if (hsvI h).fmod 6 = 2 then (hsvP s v, v, hsvT h s v) else
  if (hsvI h).fmod 6 = 3 then (hsvP s v, hsvQ h s v, v) else
  if (hsvI h).fmod 6 = 4 then (hsvT h s v, hsvP s v, v) else (v, hsvP s v, hsvQ h s v)
def hsvOk (h s : UInt64) : Bool := (Float64.cmp s 0 == some .eq) || (!Float64.isNaN (Float64.mul h 4618441417868443648) && !Float64.isInf (Float64.mul h 4618441417868443648) && decide ((hsvI h).natAbs < 2 ^ 64))
theorem big_line : 2 ^ 64 < 2 ^ 1024 - 2 ^ 970 := by decide +kernel
theorem fmod6_lt (x : Int) (h0 : x.fmod 6 ≠ 0) (h1 : x.fmod 6 ≠ 1) (h2 : x.fmod 6 ≠ 2) (h3 : x.fmod 6 ≠ 3) (h4 : x.fmod 6 ≠ 4) (h5 : x.fmod 6 ≠ 5) : False := by
  have a := Int.fmod_nonneg_of_pos x (b := 6) (by decide)
  have b := Int.fmod_lt_of_pos x (b := 6) (by decide)
  generalize x.fmod 6 = y at *
  obtain ⟨n, rfl⟩ := Int.eq_ofNat_of_zero_le a
  have hn : n < 6 := Int.ofNat_lt.mp b
  rcases (by decide : ∀ n, n < 6 → n = 0 ∨ n = 1 ∨ n = 2 ∨ n = 3 ∨ n = 4 ∨ n = 5) n hn with rfl | rfl | rfl | rfl | rfl | rfl
  · exact h0 rfl
  · exact h1 rfl
  · exact h2 rfl
  · exact h3 rfl
  · exact h4 rfl
  · exact h5 rfl
theorem hsvOk_not {h s : UInt64} (hp : hsvOk h s = true) (h0 : (Float64.cmp s 0 == some .eq) = false) :
    Float64.isNaN (Float64.mul h 4618441417868443648) = false ∧ Float64.isInf (Float64.mul h 4618441417868443648) = false ∧ (Flt.toInt Float64.truncOf (Float64.mul h 4618441417868443648)).natAbs < 2 ^ 1024 - 2 ^ 970 := by
  unfold hsvOk at hp
  rw [h0] at hp
  simp only [Bool.false_or, Bool.and_eq_true, Bool.not_eq_true', decide_eq_true_eq] at hp
  exact ⟨hp.1.1, hp.1.2, Nat.lt_trans hp.2 big_line⟩
theorem no_way {a : Bool} {P : Prop} (h : a = true) (h' : a = false) : P := by rw [h] at h'; cases h'
theorem no_way2 {a b : Nat} {P : Prop} (h : a ≤ b) (h' : b < a) : P := absurd h (Nat.not_le.mpr h')

theorem hsv_to_rgb_con (w : World) (mean : ExcName → Option Value) (mg mb : Str → Option Value) (news : List (Addr × Obj)) (h sa v : UInt64) (t1 t2 t3 : Tok) (hp : hsvOk h sa = true) :
   Con w mean mg mb 122 1 news [.float h t1, .float sa t2, .float v t3] (RetT news (hsvRgb h sa v)) := by
  unfold Con
  k_fill
  w_top on
  w_on
  k_with_none
  k_with "TL lt0" => (first | (with_reducible assumption) | (refine lt_t ?_ (by with_reducible assumption); k_extra "TL lt0") | (with_reducible exact And.left (by assumption)) | (with_reducible exact And.left (And.right (by assumption))) | (with_reducible exact And.left (And.right (And.right (by assumption)))) | (with_reducible exact And.left (And.right (And.right (And.right (by assumption))))) | (with_reducible exact And.left (And.right (And.right (And.right (And.right (by assumption)))))) | (with_reducible exact And.left (And.right (And.right (And.right (And.right (And.right (by assumption))))))) | (with_reducible exact And.left (And.right (And.right (And.right (And.right (And.right (And.right (by assumption)))))))) | (with_reducible exact And.left (And.right (And.right (And.right (And.right (And.right (And.right (And.right (by assumption))))))))) | (with_reducible exact And.left (And.right (And.right (And.right (And.right (And.right (And.right (And.right (And.right (by assumption)))))))))) | (with_reducible exact And.left (And.right (And.right (And.right (And.right (And.right (And.right (And.right (And.right (And.right (by assumption))))))))))) | (with_reducible exact And.left (And.right (And.right (And.right (And.right (And.right (And.right (And.right (And.right (And.right (And.right (by assumption)))))))))))) | (with_reducible exact And.left (And.right (And.right (And.right (And.right (And.right (And.right (And.right (And.right (And.right (And.right (And.right (by assumption))))))))))))) | (with_reducible exact And.left (And.right (And.right (And.right (And.right (And.right (And.right (And.right (And.right (And.right (And.right (And.right (And.right (by assumption)))))))))))))) | (with_reducible exact And.left (And.right (And.right (And.right (And.right (And.right (And.right (And.right (And.right (And.right (And.right (And.right (And.right (And.right (by assumption))))))))))))))) | (with_reducible exact And.left (And.right (And.right (And.right (And.right (And.right (And.right (And.right (And.right (And.right (And.right (And.right (And.right (And.right (And.right (by assumption)))))))))))))))) | (with_reducible exact And.left (And.right (And.right (And.right (And.right (And.right (And.right (And.right (And.right (And.right (And.right (And.right (And.right (And.right (And.right (And.right (by assumption))))))))))))))))) | (with_reducible exact And.left (And.right (And.right (And.right (And.right (And.right (And.right (And.right (And.right (And.right (And.right (And.right (And.right (And.right (And.right (And.right (And.right (by assumption)))))))))))))))))) | (with_reducible exact And.left (And.right (And.right (And.right (And.right (And.right (And.right (And.right (And.right (And.right (And.right (And.right (And.right (And.right (And.right (And.right (And.right (And.right (by assumption))))))))))))))))))) | (with_reducible exact And.left (And.right (And.right (And.right (And.right (And.right (And.right (And.right (And.right (And.right (And.right (And.right (And.right (And.right (And.right (And.right (And.right (And.right (And.right (by assumption)))))))))))))))))))) | (with_reducible exact And.left (And.right (And.right (And.right (And.right (And.right (And.right (And.right (And.right (And.right (And.right (And.right (And.right (And.right (And.right (And.right (And.right (And.right (And.right (And.right (by assumption))))))))))))))))))))) | (with_reducible exact And.left (And.right (And.right (And.right (And.right (And.right (And.right (And.right (And.right (And.right (And.right (And.right (And.right (And.right (And.right (And.right (And.right (And.right (And.right (And.right (And.right (by assumption)))))))))))))))))))))) | (with_reducible exact And.left (And.right (And.right (And.right (And.right (And.right (And.right (And.right (And.right (And.right (And.right (And.right (And.right (And.right (And.right (And.right (And.right (And.right (And.right (And.right (And.right (And.right (by assumption))))))))))))))))))))))) | (with_reducible exact And.left (And.right (And.right (And.right (And.right (And.right (And.right (And.right (And.right (And.right (And.right (And.right (And.right (And.right (And.right (And.right (And.right (And.right (And.right (And.right (And.right (And.right (And.right (by assumption)))))))))))))))))))))))) | (with_reducible exact And.left (And.right (And.right (And.right (And.right (And.right (And.right (And.right (And.right (And.right (And.right (And.right (And.right (And.right (And.right (And.right (And.right (And.right (And.right (And.right (And.right (And.right (And.right (And.right (by assumption))))))))))))))))))))))))) | (with_reducible exact And.right (by assumption)) | (with_reducible exact And.right (And.right (by assumption))) | (with_reducible exact And.right (And.right (And.right (by assumption)))) | (with_reducible exact And.right (And.right (And.right (And.right (by assumption))))) | (with_reducible exact And.right (And.right (And.right (And.right (And.right (by assumption)))))) | (with_reducible exact And.right (And.right (And.right (And.right (And.right (And.right (by assumption))))))) | (with_reducible exact And.right (And.right (And.right (And.right (And.right (And.right (And.right (by assumption)))))))) | (with_reducible exact And.right (And.right (And.right (And.right (And.right (And.right (And.right (And.right (by assumption))))))))) | (with_reducible exact And.right (And.right (And.right (And.right (And.right (And.right (And.right (And.right (And.right (by assumption)))))))))) | (with_reducible exact And.right (And.right (And.right (And.right (And.right (And.right (And.right (And.right (And.right (And.right (by assumption))))))))))) | (with_reducible exact And.right (And.right (And.right (And.right (And.right (And.right (And.right (And.right (And.right (And.right (And.right (by assumption)))))))))))) | (with_reducible exact And.right (And.right (And.right (And.right (And.right (And.right (And.right (And.right (And.right (And.right (And.right (And.right (by assumption))))))))))))) | (with_reducible exact And.right (And.right (And.right (And.right (And.right (And.right (And.right (And.right (And.right (And.right (And.right (And.right (And.right (by assumption)))))))))))))) | (with_reducible exact And.right (And.right (And.right (And.right (And.right (And.right (And.right (And.right (And.right (And.right (And.right (And.right (And.right (And.right (by assumption))))))))))))))) | (with_reducible exact And.right (And.right (And.right (And.right (And.right (And.right (And.right (And.right (And.right (And.right (And.right (And.right (And.right (And.right (And.right (by assumption)))))))))))))))) | (with_reducible exact And.right (And.right (And.right (And.right (And.right (And.right (And.right (And.right (And.right (And.right (And.right (And.right (And.right (And.right (And.right (And.right (by assumption))))))))))))))))) | (with_reducible exact And.right (And.right (And.right (And.right (And.right (And.right (And.right (And.right (And.right (And.right (And.right (And.right (And.right (And.right (And.right (And.right (And.right (by assumption)))))))))))))))))) | (with_reducible exact And.right (And.right (And.right (And.right (And.right (And.right (And.right (And.right (And.right (And.right (And.right (And.right (And.right (And.right (And.right (And.right (And.right (And.right (by assumption))))))))))))))))))) | (with_reducible exact And.right (And.right (And.right (And.right (And.right (And.right (And.right (And.right (And.right (And.right (And.right (And.right (And.right (And.right (And.right (And.right (And.right (And.right (And.right (by assumption)))))))))))))))))))) | (with_reducible exact And.right (And.right (And.right (And.right (And.right (And.right (And.right (And.right (And.right (And.right (And.right (And.right (And.right (And.right (And.right (And.right (And.right (And.right (And.right (And.right (by assumption))))))))))))))))))))) | (with_reducible exact And.right (And.right (And.right (And.right (And.right (And.right (And.right (And.right (And.right (And.right (And.right (And.right (And.right (And.right (And.right (And.right (And.right (And.right (And.right (And.right (And.right (by assumption)))))))))))))))))))))) | (with_reducible exact And.right (And.right (And.right (And.right (And.right (And.right (And.right (And.right (And.right (And.right (And.right (And.right (And.right (And.right (And.right (And.right (And.right (And.right (And.right (And.right (And.right (And.right (by assumption))))))))))))))))))))))) | (with_reducible exact And.right (And.right (And.right (And.right (And.right (And.right (And.right (And.right (And.right (And.right (And.right (And.right (And.right (And.right (And.right (And.right (And.right (And.right (And.right (And.right (And.right (And.right (And.right (by assumption)))))))))))))))))))))))))
  k_with "TL ne0" => (refine neN ?_; (try dsimp only); first | (with_reducible assumption) | (refine Ne.symm ?_; with_reducible assumption) | (with_reducible exact And.left (by assumption)) | (with_reducible exact And.left (And.right (by assumption))) | (with_reducible exact And.left (And.right (And.right (by assumption)))) | (with_reducible exact And.left (And.right (And.right (And.right (by assumption))))) | (with_reducible exact And.left (And.right (And.right (And.right (And.right (by assumption)))))) | (with_reducible exact And.left (And.right (And.right (And.right (And.right (And.right (by assumption))))))) | (with_reducible exact Ne.symm <| And.left (by assumption)) | (with_reducible exact Ne.symm <| And.left (And.right (by assumption))) | (with_reducible exact Ne.symm <| And.left (And.right (And.right (by assumption)))) | (with_reducible exact Ne.symm <| And.left (And.right (And.right (And.right (by assumption))))) | (with_reducible exact Ne.symm <| And.left (And.right (And.right (And.right (And.right (by assumption)))))) | (with_reducible exact Ne.symm <| And.left (And.right (And.right (And.right (And.right (And.right (by assumption))))))) | (refine ne_gt ?_; k_extra "TL lt0") | (refine ne_lt ?_; k_extra "TL lt0"))
  k_with "TL le" => (first | (with_reducible assumption) | (with_reducible exact Nat.le_refl _) | (with_reducible exact Nat.succ_le_of_lt (by assumption)) | (with_reducible exact Nat.le_of_lt (by assumption)) | (with_reducible refine le_ss ?_; k_extra "TL le") | ((fail_if_success (with_reducible refine le_ss ?_)); with_reducible refine le_s ?_; k_extra "TL le") | ((fail_if_success (with_reducible refine le_s ?_)); refine le_t ?_ (by with_reducible assumption); k_extra "TL le") | ((fail_if_success (with_reducible refine le_s ?_)); refine le_t ?_ (Nat.le_of_lt (by with_reducible assumption)); k_extra "TL le"))
  k_with "TL@ call ref" => ((k_here; (with_reducible show wpAny _ _ (call (Value.ref 108) _) _ _ _); k_dflt (refine' Con.use (v_con _ _ _ _ _ _ _ _ _ _ _) ?k1 ?k2 ?k3 ?k4 ?k5 ?kK ?kd ?ku ?_; (case k1 => k_asm); (case k2 => k_asm); (case k3 => k_asm); (case k4 => k_asm); (case k5 => k_asm); (case kK => first | exact rfl | assumption); (case kd => ktr_room); (case ku => ktr_units); k_whole); intro tq9' hq9' tkq9' Fq9' Nq9'; (try dsimp only); (try k_sweep)))
  intro dp un gd cn cs a ccd cl outer A₀ base h₀ L m s Q E B F X N T hk hdp hu hret
  refine wpAny_call ?_
  k_dflt cell_enter
  w_strict (k_steps; all_goals first
    | (refine ret_t hret ?_ (by assumption) (by assumption) (by assumption); simp only [hsvRgb, hsvP, hsvQ, hsvT, hsvFr, hsvI, *, if_true, if_false, Bool.false_eq_true, Int.reduceEq]; done)
    | (exfalso; exact fmod6_lt _ (by assumption) (by assumption) (by assumption) (by assumption) (by assumption) (by assumption))
    | (exfalso; exact no_way (by assumption) (hsvOk_not hp (by assumption)).1)
    | (exfalso; exact no_way (by assumption) (hsvOk_not hp (by assumption)).2.1)
    | (exfalso; exact no_way2 (by assumption) (hsvOk_not hp (by assumption)).2.2))
end TL
end

section
open PySem PySem.W PySem.Spec PySem.Calls PyProof.Rows
set_option maxRecDepth 100000
set_option maxHeartbeats 8000000
namespace TL
section
variable {prog : Program} {w : World} {A : Around} {E : Value → Shared → Prop} {s : Shared} {h₀ : Heap} {L : Addr} {m : Str → Option Value} {env : Env}

def TupAt (ax : Addr) (its : Array Value) (news : List (Addr × Obj)) : Prop := ∃ o, (ax, o) ∈ news ∧ o.cls = .type "tuple" ∧ ∃ n, o.data = .seq its n
theorem TupAt.tup {h : Heap} {ax : Addr} {its : Array Value} {news : List (Addr × Obj)} (x : TupAt ax its news) (N : News h₀ L h news) : h.IsTuple ax its := by
  obtain ⟨o, hm, r⟩ := x
  exact ⟨o, (N _ hm).1, r⟩
/-- the source of a comprehension is a tuple of the ledger's -/
def TupSrc (prog : Program) (w : World) (A : Around) (h₀ : Heap) (L : Addr) (m : Str → Option Value) (env : Env) (elt : PySem.Expr) (x : Str) (scope : Scope) (cl : List (Str × Addr)) (Fin : Shared → List Value → List (Addr × Obj) → Prop) (xv : Value) (s₁ : Shared) : Prop :=
  ∃ ax its news, xv = .ref ax ∧ A.handled = none ∧ Fr h₀ L s₁.heap m ∧ News h₀ L s₁.heap news ∧ TupAt ax its news ∧ its.size ≤ sizeLine ∧
    ∀ s₂ : Shared, (∃ h, s₂ = { s₁ with heap := h }) → LCg.CompRest prog w A h₀ L m env elt x scope cl s₂ (TupAt ax its) (fun i v => its[i]? = some v) (Fin s₂) its.size 0 [] news
theorem TupSrc.intro {elt : PySem.Expr} {x : Str} {scope : Scope} {cl : List (Str × Addr)} {Fin : Shared → List Value → List (Addr × Obj) → Prop} {ax : Addr} {its : Array Value} {news : List (Addr × Obj)} {s₁ : Shared} {o : Obj}
    (hh : A.handled = none) (F : Fr h₀ L s₁.heap m) (N : News h₀ L s₁.heap news) (hm : (ax, o) ∈ news) (hc : o.cls = .type "tuple") (hd : ∃ n, o.data = .seq its n) (hsz : its.size ≤ sizeLine)
    (h : ∀ g, TupAt ax its news → LCg.CompRest prog w A h₀ L m env elt x scope cl { s₁ with heap := g } (TupAt ax its) (fun i v => its[i]? = some v) (Fin { s₁ with heap := g }) its.size 0 [] news) :
    TupSrc prog w A h₀ L m env elt x scope cl Fin (.ref ax) s₁ := ⟨ax, its, news, rfl, hh, F, N, ⟨o, hm, hc, hd⟩, hsz, fun _ ⟨g, e⟩ => e ▸ h g ⟨o, hm, hc, hd⟩⟩
/-- the source of a comprehension is a str -/
def StrSrc (prog : Program) (w : World) (A : Around) (h₀ : Heap) (L : Addr) (m : Str → Option Value) (env : Env) (elt : PySem.Expr) (x : Str) (scope : Scope) (cl : List (Str × Addr)) (Fin : Shared → List Value → List (Addr × Obj) → Prop) (xv : Value) (s₁ : Shared) : Prop :=
  ∃ z t news, xv = .str z t ∧ A.handled = none ∧ Fr h₀ L s₁.heap m ∧ News h₀ L s₁.heap news ∧ z.cps.all (· < 128) = true ∧ z.cps.size ≤ sizeLine ∧
    ∀ s₂ : Shared, (∃ h, s₂ = { s₁ with heap := h }) → LCg.CompRest prog w A h₀ L m env elt x scope cl s₂ (fun _ => True) (SignAt z) (Fin s₂) z.cps.size 0 [] news
theorem StrSrc.intro {elt : PySem.Expr} {x : Str} {scope : Scope} {cl : List (Str × Addr)} {Fin : Shared → List Value → List (Addr × Obj) → Prop} {z : Str} {t : Tok} {news : List (Addr × Obj)} {s₁ : Shared}
    (hh : A.handled = none) (F : Fr h₀ L s₁.heap m) (N : News h₀ L s₁.heap news) (ha : z.cps.all (· < 128) = true) (hsz : z.cps.size ≤ sizeLine)
    (h : ∀ g, LCg.CompRest prog w A h₀ L m env elt x scope cl { s₁ with heap := g } (fun _ => True) (SignAt z) (Fin { s₁ with heap := g }) z.cps.size 0 [] news) :
    StrSrc prog w A h₀ L m env elt x scope cl Fin (.str z t) s₁ := ⟨z, t, news, rfl, hh, F, N, ha, hsz, fun _ ⟨g, e⟩ => e ▸ h g⟩

theorem ListComp_Tup {elt iter : PySem.Expr} {x : Str} {px : Pos} {scope : Scope} {cl : List (Str × Addr)} {pos : Pos} {Q : Value → Shared → Prop} (_F₀ : Fr h₀ L s.heap m)
    (hclos : closureFor scope env = pure cl) (hcell : ∀ y ∈ scope.names, y.2 ≠ .cell) (hkind : scope.kind = .function)
    (hnames : ∀ y ∈ scope.names, y.2 = .local → scope.names.lookup y.1 = some .local) (hx : scope.names.lookup x = some .local)
    (h : wpAny (model prog w) A (eval iter env) (TupSrc prog w A h₀ L m env elt x scope cl (fun s₂ => LCg.FinE h₀ L m s₂ Q)) E s)
    (hs : ∀ x, foldedSetIterable iter env x = pure x := by intro _; rfl) :
    wpAny (model prog w) A (eval (.ListComp elt [⟨.Name x px, iter, [], 0⟩] scope pos) env) Q E s := by
  rw [eval_ListComp]
  refine wpAny_comprehension_free (use := none) rfl hs hclos hkind hnames (wpAny_mono h (fun xv s₁ h₁ => ?_) fun _ _ e => e)
  obtain ⟨ax, its, news, rfl, hh, F, N, S, hsz, R⟩ := h₁
  have hl := S.tup N
  have hlt : ax < s₁.heap.objs.size := by obtain ⟨_, e, _⟩ := hl; exact Heap.lt_size e
  refine wpAny_pyIter_tuple hl ?_
  have up : ∀ b o, s₁.heap.get? b = some o → (s₁.heap.push { cls := .type "tuple_iterator", data := .fields #[.ref ax, .int 0 0] }).get? b = some o := fun b o e => Heap.get?_push_of_some _ e
  refine LCg.block_U (Walks.tuple hh s₁.heap.objs.size ax (Nat.ne_of_lt hlt) its) hsz (fun i h st => by obtain ⟨o, e, _⟩ := st.1; exact ⟨o, e⟩)
    (fun i h h' o nw st e e' k N S => ⟨by obtain ⟨o', q, r⟩ := st.1; rw [e] at q; cases q; exact ⟨o, e', r⟩, S.tup N⟩) hcell hkind hx ⟨⟨_, Heap.get?_push_size _ rfl, rfl, rfl⟩, hl.push _⟩ (fun b hb => ?_)
    (F.keeps up) (N.grown up) (Nat.ne_of_lt F.ns.lt) (next_is_new F) (fun p hp => Nat.ne_of_lt (Heap.lt_size (N p hp).1)) S (R _ ⟨_, rfl⟩) ?_
  · show b < (s₁.heap.push _).objs.size
    rw [Heap.size_push]
    rcases List.mem_cons.mp hb with rfl | hb
    · exact Nat.lt_succ_self _
    · rw [List.mem_singleton.mp hb]; exact Nat.lt_succ_of_lt hlt
  · intro D C h tk m' ys news' F' N' o1 hn hC₀ hD₀ hCL hDL hCD offC fin
    refine ⟨m', hn, fun h'' hs'' => fin D h'' tk (F'.change hs'' hCL hC₀) (fun p hp => ?_) o1⟩
    refine ⟨hs''.extBut _ _ ?_ (N' p hp).1, (N' p hp).2⟩
    rcases List.mem_cons.mp hp with rfl | hp
    · exact Ne.symm hCD
    · exact offC p hp

theorem ListComp_Str {elt iter : PySem.Expr} {x : Str} {px : Pos} {scope : Scope} {cl : List (Str × Addr)} {pos : Pos} {Q : Value → Shared → Prop} (_F₀ : Fr h₀ L s.heap m)
    (hclos : closureFor scope env = pure cl) (hcell : ∀ y ∈ scope.names, y.2 ≠ .cell) (hkind : scope.kind = .function)
    (hnames : ∀ y ∈ scope.names, y.2 = .local → scope.names.lookup y.1 = some .local) (hx : scope.names.lookup x = some .local)
    (h : wpAny (model prog w) A (eval iter env) (StrSrc prog w A h₀ L m env elt x scope cl (fun s₂ => LCg.FinE h₀ L m s₂ Q)) E s)
    (hs : ∀ x, foldedSetIterable iter env x = pure x := by intro _; rfl) :
    wpAny (model prog w) A (eval (.ListComp elt [⟨.Name x px, iter, [], 0⟩] scope pos) env) Q E s := by
  rw [eval_ListComp]
  refine wpAny_comprehension_free (use := none) rfl hs hclos hkind hnames (wpAny_mono h (fun xv s₁ h₁ => ?_) fun _ _ e => e)
  obtain ⟨z, t, news, rfl, hh, F, N, ha, hsz, R⟩ := h₁
  refine wpAny_pyIter_ascii ha ?_
  have up : ∀ b o, s₁.heap.get? b = some o → (s₁.heap.push { cls := .type "str_ascii_iterator", data := .fields #[.str z t, .int 0 0] }).get? b = some o := fun b o e => Heap.get?_push_of_some _ e
  refine LCg.block_U (Walks.strAscii hh s₁.heap.objs.size z t) hsz (fun i h st => by obtain ⟨o, e, _⟩ := st; exact ⟨o, e⟩)
    (fun i h h' o nw st e e' k N S => by obtain ⟨o', q, r⟩ := st; rw [e] at q; cases q; exact ⟨o, e', r⟩) hcell hkind hx ⟨_, Heap.get?_push_size _ rfl, rfl, rfl⟩ (fun b hb => ?_)
    (F.keeps up) (N.grown up) (Nat.ne_of_lt F.ns.lt) (next_is_new F) (fun p hp => Nat.ne_of_lt (Heap.lt_size (N p hp).1)) trivial (R _ ⟨_, rfl⟩) ?_
  · show b < (s₁.heap.push _).objs.size
    rw [Heap.size_push, List.mem_singleton.mp hb]
    exact Nat.lt_succ_self _
  · intro D C h tk m' ys news' F' N' o1 hn hC₀ hD₀ hCL hDL hCD offC fin
    refine ⟨m', hn, fun h'' hs'' => fin D h'' tk (F'.change hs'' hCL hC₀) (fun p hp => ?_) o1⟩
    refine ⟨hs''.extBut _ _ ?_ (N' p hp).1, (N' p hp).2⟩
    rcases List.mem_cons.mp hp with rfl | hp
    · exact Ne.symm hCD
    · exact offC p hp
end
end TL
end

section
open PySem PySem.W PySem.Spec PySem.Calls PyProof.Rows
set_option maxRecDepth 100000
set_option maxHeartbeats 8000000
namespace TL
section
variable {prog : Program} {w : World} {A : Around} {E : Value → Shared → Prop} {s : Shared} {env : Env} {h₀ : Heap} {x : Str} {body : List Stmt} {Q : Flow → Shared → Prop}

/-- how a turn ends, the iterator at I untouched, the rest of the ledger free -/
def TurnEnd (h₀ : Heap) (L I : Addr) (oI : Obj) (Jn : (Str → Option Value) → List (Addr × Obj) → Prop) (s₁ : Shared) (Q : Flow → Shared → Prop) (f : Flow) (s₂ : Shared) : Prop :=
  match f with
  | .ret v => Q (.ret v) s₂
  | .brk => Q .next s₂
  | _ => ∃ h' tk' m' news', s₂ = { s₁ with heap := h', toks := tk' } ∧ Fr h₀ L h' m' ∧ News h₀ L h' ((I, oI) :: news') ∧ (∀ p ∈ news', p.1 ≠ I) ∧ Jn m' news'

theorem turn_next {L I : Addr} {oI : Obj} {Jn : (Str → Option Value) → List (Addr × Obj) → Prop} {s₁ : Shared} {h' : Heap} {tk' : Nat} {m' : Str → Option Value} {all : List (Addr × Obj)} (news' : List (Addr × Obj))
    (F : Fr h₀ L h' m') (N : News h₀ L h' all) (hs : ∀ p ∈ (I, oI) :: news', p ∈ all) (off : ∀ p ∈ news', p.1 ≠ I) (hj : Jn m' news') : TurnEnd h₀ L I oI Jn s₁ Q .next { s₁ with heap := h', toks := tk' } :=
  ⟨h', tk', m', news', rfl, F, fun p hp => N p (hs p hp), off, hj⟩

theorem loop_any {P : Nat → Value → Prop} {St : Nat → Heap → Prop} {n : Nat} {I : Addr} {fp : List Addr} {m₀ : Str → Option Value} {news : List (Addr × Obj)} (J : Nat → (Str → Option Value) → List (Addr × Obj) → Prop)
    (W : Walks prog w A I [I] [I] n P St) (hI : ∀ i h, St i h → ∃ o, h.get? I = some o) (hst : St 0 s.heap) (hIL : env.locals ≠ I) (hI₀ : h₀.get? I = none) (hnI : ∀ p ∈ news, p.1 ≠ I)
    (F : Fr h₀ env.locals s.heap m₀) (N : News h₀ env.locals s.heap news) (hj : J 0 m₀ news)
    (turn : ∀ i v m₁ news₁ h tk oI, i < n → P i v → J i m₁ news₁ → (∀ p ∈ news₁, p.1 ≠ I) → Fr h₀ env.locals h (fun y => if y = x then some v else m₁ y) → News h₀ env.locals h ((I, oI) :: news₁) →
      wpAny (model prog w) A (execs body env) (TurnEnd h₀ env.locals I oI (J (i + 1)) { s with heap := h, toks := tk } Q) E { s with heap := h, toks := tk })
    (done : ∀ m₁ news₁ h tk, J n m₁ news₁ → Fr h₀ env.locals h m₁ → News h₀ env.locals h news₁ → Q .next { s with heap := h, toks := tk }) :
    LoopAtV prog w A h₀ env x body Q E (.ref I) s := by
  refine ⟨I, [I], [I], n, P, St, m₀, news, J, rfl, W, by simpa using hIL, fun b hb => by rw [List.mem_singleton.mp hb]; exact hI₀, fun p hp hb => hnI p hp (List.mem_singleton.mp hb), hst, F, N, hj, ?_, fun h' tk m' news' F' N' _ hJ => done m' news' h' tk hJ F' N'⟩
  rintro i v m₁ news₁ s₁ own ⟨h, tk, rfl⟩ hi hP hJ hw1 hof hoh hoa hst' F₁ N₁
  obtain ⟨oI, hoI⟩ := hI _ _ hst'
  have hmem : (I, oI) ∈ own := hoa I (List.mem_singleton.mpr rfl) hI₀ oI hoI
  have hall : ∀ p ∈ own, p = (I, oI) := fun p hp => by
    have e1 := List.mem_singleton.mp (hof p hp)
    have e2 := hoh p hp
    rw [e1] at e2
    have e3 : p.2 = oI := Option.some.inj (e2.symm.trans hoI)
    obtain ⟨a, b⟩ := p
    simp only at e1 e3
    rw [e1, e3]
  have N₂ : News h₀ env.locals h ((I, oI) :: news₁) := fun p hp => by
    rcases List.mem_cons.mp hp with rfl | hp
    · exact N₁ _ (List.mem_append_left _ hmem)
    · exact N₁ _ (List.mem_append_right _ hp)
  refine wpAny_mono (turn i v m₁ news₁ h tk oI hi hP hJ (fun p hp q => hw1 p hp (List.mem_singleton.mpr q)) F₁ N₂) (fun f s₂ hq => ?_) fun _ _ e => e
  have up : ∀ {h' : Heap} {news' : List (Addr × Obj)}, News h₀ env.locals h' ((I, oI) :: news') → News h₀ env.locals h' (own ++ news') := fun N' p hp => by
    rcases List.mem_append.mp hp with hp | hp
    · rw [hall p hp]; exact N' _ (.head _)
    · exact N' _ (.tail _ hp)
  cases f with
  | ret v => exact hq
  | brk => exact hq
  | next =>
    obtain ⟨h', tk', m', news', rfl, F', N', off, hj'⟩ := hq
    exact ⟨rfl, h', tk', m', news', rfl, F', up N', fun p hp q => off p hp (List.mem_singleton.mp q), hj'⟩
  | cont =>
    obtain ⟨h', tk', m', news', rfl, F', N', off, hj'⟩ := hq
    exact ⟨rfl, h', tk', m', news', rfl, F', up N', fun p hp q => off p hp (List.mem_singleton.mp q), hj'⟩

theorem loop_str {z : Str} {t : Tok} {m₀ : Str → Option Value} {news : List (Addr × Obj)} (J : Nat → (Str → Option Value) → List (Addr × Obj) → Prop)
    (hh : A.handled = none) (ha : z.cps.all (· < 128) = true) (F : Fr h₀ env.locals s.heap m₀) (N : News h₀ env.locals s.heap news) (hj : J 0 m₀ news)
    (turn : ∀ i c u m₁ news₁ h tk I oI, z.cps[i]? = some c → J i m₁ news₁ → (∀ p ∈ news₁, p.1 ≠ I) → Fr h₀ env.locals h (fun y => if y = x then some (.str ⟨#[c]⟩ u) else m₁ y) → News h₀ env.locals h ((I, oI) :: news₁) →
      ∀ s', s' = { s with heap := h, toks := tk } → wpAny (model prog w) A (execs body env) (TurnEnd h₀ env.locals I oI (J (i + 1)) s' Q) E s')
    (done : ∀ m₁ news₁ h tk, J z.cps.size m₁ news₁ → Fr h₀ env.locals h m₁ → News h₀ env.locals h news₁ → Q .next { s with heap := h, toks := tk }) :
    wpAny (model prog w) A (pyIter (.str z t)) (fun it s₂ => LoopAtV prog w A h₀ env x body Q E it s₂) E s := by
  refine wpAny_pyIter_ascii ha ?_
  have up : ∀ b o, s.heap.get? b = some o → (s.heap.push { cls := .type "str_ascii_iterator", data := .fields #[.str z t, .int 0 0] }).get? b = some o := fun b o e => Heap.get?_push_of_some _ e
  refine loop_any (fp := []) J (Walks.strAscii hh s.heap.objs.size z t) (fun i h st => by obtain ⟨o, e, _⟩ := st; exact ⟨o, e⟩) ⟨_, Heap.get?_push_size _ rfl, rfl, rfl⟩ (Nat.ne_of_lt F.ns.lt) (next_is_new F) (fun p hp => Nat.ne_of_lt (Heap.lt_size (N p hp).1)) (F.keeps up) (N.grown up) hj ?_ ?_
  · rintro i v m₁ news₁ h tk oI hi ⟨c, u, hc, rfl⟩ hJ hn F₁ N₁
    exact turn i c u m₁ news₁ h tk _ oI hc hJ hn F₁ N₁ _ rfl
  · intro m₁ news₁ h tk hJ F₁ N₁
    exact done m₁ news₁ h tk hJ F₁ N₁
theorem loop_range {r : Addr} {a b : Int} {t u v : Tok} {m₀ : Str → Option Value} {news : List (Addr × Obj)} (J : Nat → (Str → Option Value) → List (Addr × Obj) → Prop)
    (hh : A.handled = none) (hr : IsRange s.heap r a b 1 t u v) (hsm : Builtin.Range.small a b 1 = true) (F : Fr h₀ env.locals s.heap m₀) (N : News h₀ env.locals s.heap news) (hj : J 0 m₀ news)
    (turn : ∀ i tk' m₁ news₁ h tk I oI, i < (b - a).toNat → J i m₁ news₁ → (∀ p ∈ news₁, p.1 ≠ I) → Fr h₀ env.locals h (fun y => if y = x then some (.int (a + (i : Int)) tk') else m₁ y) → News h₀ env.locals h ((I, oI) :: news₁) →
      ∀ s', s' = { s with heap := h, toks := tk } → wpAny (model prog w) A (execs body env) (TurnEnd h₀ env.locals I oI (J (i + 1)) s' Q) E s')
    (done : ∀ m₁ news₁ h tk, J (b - a).toNat m₁ news₁ → Fr h₀ env.locals h m₁ → News h₀ env.locals h news₁ → Q .next { s with heap := h, toks := tk }) :
    wpAny (model prog w) A (pyIter (.ref r)) (fun it s₂ => LoopAtV prog w A h₀ env x body Q E it s₂) E s := by
  refine wpAny_pyIter_range hr hsm ?_
  rw [rangeSize_nat]
  have up : ∀ b' o, s.heap.get? b' = some o → (s.heap.push { cls := .type "range_iterator", data := .fields #[rawInt a, rawInt ((b - a).toNat : Int), rawInt 1] }).get? b' = some o := fun b' o e => Heap.get?_push_of_some _ e
  refine loop_any (fp := []) J (LCg.range_walks hh a (b - a).toNat) (fun i h st => ⟨_, st⟩) (by show IsRangeIter _ _ _ _ _; simpa using Heap.get?_push_size _ rfl) (Nat.ne_of_lt F.ns.lt) (next_is_new F) (fun p hp => Nat.ne_of_lt (Heap.lt_size (N p hp).1)) (F.keeps up) (N.grown up) hj ?_ ?_
  · rintro i v m₁ news₁ h tk oI hi ⟨tk', rfl⟩ hJ hn F₁ N₁
    exact turn i tk' m₁ news₁ h tk _ oI hi hJ hn F₁ N₁ _ rfl
  · intro m₁ news₁ h tk hJ F₁ N₁
    exact done m₁ news₁ h tk hJ F₁ N₁
theorem turn_brk {h₀ : Heap} {L I : Addr} {oI : Obj} {Jn : (Str → Option Value) → List (Addr × Obj) → Prop} {s₁ s₂ : Shared} {Q : Flow → Shared → Prop} (h : Q .next s₂) : TurnEnd h₀ L I oI Jn s₁ Q .brk s₂ := h
end
end TL
end

section
open PySem PySem.W PySem.Spec PySem.Calls PyProof.Rows
set_option maxRecDepth 100000
set_option maxHeartbeats 8000000
namespace TL

/-- what the loop of __init__ has reckoned: the counts, the blanks in hand, the signs, the tabs -/
structure WsV where
  k : List Int
  b : Int
  n : Int
  nt : Int
def grown (k : List Int) (b : Int) : List Int := if (k.length : Int) ≤ b then k ++ (List.replicate (b - k.length + 1).toNat [0]).flatten else k
def wsStep (v : WsV) (c : Nat) : WsV :=
  if c = 32 then { v with b := v.b + 1, n := v.n + 1 }
  else { k := (grown v.k v.b).set v.b.toNat ((grown v.k v.b).getD v.b.toNat 0 + 1), b := 0, n := v.n + 1, nt := v.nt + 1 }
def wsRun (cs : List Nat) : WsV := cs.foldl wsStep ⟨[], 0, 0, 0⟩

/-- what is known of the reckoning after i signs -/
def wsD (z : Str) (i : Nat) (v : WsV) : Prop := v = wsRun (z.cps.toList.take i) ∧ (∀ c ∈ z.cps.toList.take i, c = 32 ∨ c = 9) ∧ 0 ≤ v.b ∧ v.b ≤ i ∧ v.k.length ≤ i
theorem grown_pos {k : List Int} {b : Int} (h : (k.length : Int) ≤ b) : grown k b = k ++ (List.replicate (b - k.length + 1).toNat [0]).flatten := if_pos h
theorem grown_neg {k : List Int} {b : Int} (h : ¬ (k.length : Int) ≤ b) : grown k b = k := if_neg h
theorem grown_length (k : List Int) (b : Int) : (grown k b).length = max k.length (b + 1).toNat := by
  unfold grown
  split
  · rw [List.length_append, show (List.replicate (b - (k.length : Int) + 1).toNat [(0 : Int)]).flatten.length = (b - (k.length : Int) + 1).toNat by simp]; omega
  · omega
theorem wsD_step {z : Str} {i c : Nat} {v : WsV} (h : wsD z i v) (hc : z.cps[i]? = some c) (h9 : c = 32 ∨ c = 9) : wsD z (i + 1) (wsStep v c) := by
  obtain ⟨hv, hall, h0, h1, h2⟩ := h
  have ht : z.cps.toList.take (i + 1) = z.cps.toList.take i ++ [c] := by simp [List.take_add_one, hc]
  refine ⟨?_, ?_, ?_, ?_, ?_⟩
  · rw [ht, wsRun, List.foldl_append, hv]; rfl
  · intro x hx
    rw [ht] at hx
    rcases List.mem_append.mp hx with hx | hx
    · exact hall x hx
    · rw [List.mem_singleton.mp hx]; exact h9
  · unfold wsStep; split
    · show 0 ≤ v.b + 1; omega
    · exact Int.le_refl 0
  · unfold wsStep; split
    · show v.b + 1 ≤ ((i + 1 : Nat) : Int); omega
    · show (0 : Int) ≤ ((i + 1 : Nat) : Int); omega
  · unfold wsStep; split
    · show v.k.length ≤ i + 1; omega
    · show ((grown v.k v.b).set _ _).length ≤ i + 1
      rw [List.length_set, grown_length]; omega
theorem wsD_end {z : Str} {i c : Nat} {v : WsV} (h : wsD z i v) (hc : z.cps[i]? = some c) (h1 : c ≠ 32) (h2 : c ≠ 9) : v = wsRun (z.cps.toList.takeWhile fun c => decide (c = 32 ∨ c = 9)) := by
  obtain ⟨hv, hall, _⟩ := h
  rw [hv]
  congr 1
  have hd : z.cps.toList.drop i = c :: z.cps.toList.drop (i + 1) := by
    have hlt : i < z.cps.toList.length := by
      have := (Array.getElem?_eq_some_iff.mp hc).1
      simpa using this
    rw [List.drop_eq_getElem_cons hlt]
    congr 1
    have := (Array.getElem?_eq_some_iff.mp hc).2
    simpa using this
  have e : z.cps.toList = z.cps.toList.take i ++ c :: z.cps.toList.drop (i + 1) := by
    rw [← hd, List.take_append_drop]
  conv => rhs; rw [e]
  rw [List.takeWhile_append_of_pos (by intro a ha; simpa using hall a ha), List.takeWhile_cons_of_neg (by simp [h1, h2]), List.append_nil]
theorem sign_eq {c : Nat} {x : Str} {k : Nat} (e : x = ⟨#[k]⟩) (h : (({ cps := #[c] } : Str) == x) = true) : c = k := by
  have := eq_of_beq h
  rw [e] at this
  simpa using this
theorem sign_ne {c : Nat} {x : Str} {k : Nat} (e : x = ⟨#[k]⟩) (h : (({ cps := #[c] } : Str) == x) = false) : c ≠ k := by
  intro q
  subst q
  rw [e] at h
  simp at h

def wsJ (base : List (Addr × Obj)) (m₀ : Str → Option Value) (z : Str) (i : Nat) (m₁ : Str → Option Value) (nw : List (Addr × Obj)) : Prop :=
  ∃ (c : Addr) (vs : List Value) (j : Nat) (v : WsV) (tb tn tt : Tok), nw = (c, W.listOf vs.toArray j) :: base ∧ IntsAre vs v.k ∧ LCg.Off1 c base ∧
    m₁ (Str.ofString "count") = some (.ref c) ∧ m₁ (Str.ofString "b") = some (.int v.b tb) ∧ m₁ (Str.ofString "n") = some (.int v.n tn) ∧ m₁ (Str.ofString "nt") = some (.int v.nt tt) ∧
    (∀ y, y ≠ Str.ofString "count" → y ≠ Str.ofString "b" → y ≠ Str.ofString "n" → y ≠ Str.ofString "nt" → y ≠ Str.ofString "ch" → m₁ y = m₀ y) ∧ wsD z i v
theorem ws_turn {h₀ h' : Heap} {L I c' : Addr} {oI : Obj} {m₀ m' : Str → Option Value} {s₁ : Shared} {Q : Flow → Shared → Prop} {tk' : Nat} {base all : List (Addr × Obj)} {z : Str} {i j' : Nat} {vs' : List Value} {v' : WsV} {tb tn tt : Tok}
    (F : Fr h₀ L h' m') (N : News h₀ L h' all) (r1 : m' (Str.ofString "count") = some (.ref c')) (r2 : m' (Str.ofString "b") = some (.int v'.b tb)) (r3 : m' (Str.ofString "n") = some (.int v'.n tn)) (r4 : m' (Str.ofString "nt") = some (.int v'.nt tt))
    (r5 : ∀ y, y ≠ Str.ofString "count" → y ≠ Str.ofString "b" → y ≠ Str.ofString "n" → y ≠ Str.ofString "nt" → y ≠ Str.ofString "ch" → m' y = m₀ y)
    (hI : IntsAre vs' v'.k) (hm : (c', W.listOf vs'.toArray j') ∈ all) (hs : ∀ p ∈ base, p ∈ all) (hi : (I, oI) ∈ all) (hoff : LCg.Off1 c' base) (hcI : @Ne Nat c' I) (hbI : ∀ p ∈ base, p.1 ≠ I) (hD : wsD z i v') :
    TurnEnd h₀ L I oI (wsJ base m₀ z i) s₁ Q .next { s₁ with heap := h', toks := tk' } :=
  turn_next ((c', W.listOf vs'.toArray j') :: base) F N (fun p hp => by
    rcases List.mem_cons.mp hp with rfl | hp
    · exact hi
    · rcases List.mem_cons.mp hp with rfl | hp
      · exact hm
      · exact hs p hp) (fun p hp => by
    rcases List.mem_cons.mp hp with rfl | hp
    · exact hcI
    · exact hbI p hp) ⟨c', vs', j', v', tb, tn, tt, rfl, hI, hoff, r1, r2, r3, r4, r5, hD⟩
theorem ws_map {m₀ m₁ : Str → Option Value} {c : Addr} {V : Option Value} {a1 a2 a3 : Option Value} (h1 : m₁ (Str.ofString "count") = some (.ref c)) (h2 : m₁ (Str.ofString "b") = a1) (h3 : m₁ (Str.ofString "n") = a2) (h4 : m₁ (Str.ofString "nt") = a3)
    (h5 : ∀ y, y ≠ Str.ofString "count" → y ≠ Str.ofString "b" → y ≠ Str.ofString "n" → y ≠ Str.ofString "nt" → y ≠ Str.ofString "ch" → m₁ y = m₀ y) :
    (fun y => if y = Str.ofString "ch" then V else m₁ y) = fun y => if y = Str.ofString "ch" then V else if y = Str.ofString "count" then some (.ref c) else if y = Str.ofString "b" then a1 else if y = Str.ofString "n" then a2 else if y = Str.ofString "nt" then a3 else m₀ y := by
  funext y
  by_cases e0 : y = Str.ofString "ch"
  · rw [if_pos e0, if_pos e0]
  rw [if_neg e0, if_neg e0]
  by_cases e1 : y = Str.ofString "count"
  · rw [if_pos e1, e1, h1]
  rw [if_neg e1]
  by_cases e2 : y = Str.ofString "b"
  · rw [if_pos e2, e2, h2]
  rw [if_neg e2]
  by_cases e3 : y = Str.ofString "n"
  · rw [if_pos e3, e3, h3]
  rw [if_neg e3]
  by_cases e4 : y = Str.ofString "nt"
  · rw [if_pos e4, e4, h4]
  rw [if_neg e4]
  exact h5 y e1 e2 e3 e4 e0

theorem off1_all {a : Addr} : ∀ {l : List (Addr × Obj)}, LCg.Off1 a l → ∀ p ∈ l, p.1 ≠ a
  | [], _, _, h => nomatch h
  | _ :: _, h, p, hp => by
    rcases List.mem_cons.mp hp with rfl | hp
    · exact h.1
    · exact off1_all h.2 p hp
theorem off1_of {a : Addr} : ∀ {l : List (Addr × Obj)}, (∀ p ∈ l, p.1 ≠ a) → LCg.Off1 a l
  | [], _ => trivial
  | _ :: _, h => ⟨h _ (.head _), off1_of fun p hp => h p (.tail _ hp)⟩
theorem ne_of_all_lt {a : Addr} {l : List (Addr × Obj)} (h : ∀ p ∈ l, p.1 < a) : ∀ p ∈ l, p.1 ≠ a := fun p hp => Nat.ne_of_lt (h p hp)
theorem ne_of_allLt {a : Addr} {l : List (Addr × Obj)} (h : AllLt a l) : ∀ p ∈ l, p.1 ≠ a := ne_of_all_lt (ktn_ltOf h)
theorem off1_of_lt {a : Addr} : ∀ {l : List (Addr × Obj)}, AllLt a l → LCg.Off1 a l
  | [], _ => trivial
  | _ :: _, h => ⟨Nat.ne_of_lt h.1, off1_of_lt h.2⟩
abbrev wsEs (P : Params) (z : Str) (tz : Tok) (v : WsV) (N : Addr) (sb : Bool) (k1 k2 k3 k4 k5 tn tt : Tok) : List DictEntry :=
  [{ hash := PyData.keyHash P (Str.ofString "raw"), key := .str (Str.ofString "raw") k1, val := .str z tz },
   { hash := PyData.keyHash P (Str.ofString "n"), key := .str (Str.ofString "n") k2, val := .int v.n tn },
   { hash := PyData.keyHash P (Str.ofString "nt"), key := .str (Str.ofString "nt") k3, val := .int v.nt tt },
   { hash := PyData.keyHash P (Str.ofString "norm"), key := .str (Str.ofString "norm") k4, val := .ref N },
   { hash := PyData.keyHash P (Str.ofString "is_simple"), key := .str (Str.ofString "is_simple") k5, val := .bool sb }]
abbrev tupO (its : Array Value) : Obj := { cls := .type "tuple", data := .seq its }
/-- a new Whitespace comes back -/
abbrev RetW (P : Params) (news : List (Addr × Obj)) (z : Str) (tz : Tok) (v : WsV) : Heap → Addr → (Str → Option Value) → Shared → (Value → Shared → Prop) → Prop :=
  fun h₀ L m s Q => ∀ (x d N T : Addr) (vs : List Value) (sb : Bool) (k1 k2 k3 k4 k5 tn tt tb : Tok) (h' : Heap) (tk' : Nat), Fr h₀ L h' m →
    News h₀ L h' ((x, instObj 83 d) :: (d, dictOf (wsEs P z tz v N sb k1 k2 k3 k4 k5 tn tt) 5) :: (N, tupO #[.ref T, .int v.b tb]) :: (T, tupO vs.toArray) :: news) →
    IntsAre vs v.k → (∀ p ∈ news, p.1 < d) → @LT.lt Nat _ d x → @LT.lt Nat _ x T → @LT.lt Nat _ T N → Q (.ref x) { s with heap := h', toks := tk' }
theorem ret_w {P : Params} {news all : List (Addr × Obj)} {z : Str} {tz : Tok} {v v' : WsV} {h₀ h' : Heap} {L x d N T : Addr} {m : Str → Option Value} {s : Shared} {Q : Value → Shared → Prop} {vs : List Value} {sb : Bool} {k1 k2 k3 k4 k5 tn tt tb : Tok} {tk' : Nat}
    (hret : RetW P news z tz v h₀ L m s Q) (e : v' = v) (F : Fr h₀ L h' m) (Nw : News h₀ L h' all) (h1 : (x, instObj 83 d) ∈ all) (h2 : (d, dictOf (wsEs P z tz v' N sb k1 k2 k3 k4 k5 tn tt) 5) ∈ all) (h3 : (N, tupO #[.ref T, .int v'.b tb]) ∈ all) (h4 : (T, tupO vs.toArray) ∈ all) (hs : ∀ p ∈ news, p ∈ all)
    (hI : IntsAre vs v'.k) (l1 : ∀ p ∈ news, p.1 < d) (l2 : @LT.lt Nat _ d x) (l3 : @LT.lt Nat _ x T) (l4 : @LT.lt Nat _ T N) : Q (.ref x) { s with heap := h', toks := tk' } := by
  subst e
  refine hret x d N T vs sb k1 k2 k3 k4 k5 tn tt tb h' tk' F (fun p hp => Nw p ?_) hI l1 l2 l3 l4
  rcases List.mem_cons.mp hp with rfl | hp
  · exact h1
  rcases List.mem_cons.mp hp with rfl | hp
  · exact h2
  rcases List.mem_cons.mp hp with rfl | hp
  · exact h3
  rcases List.mem_cons.mp hp with rfl | hp
  · exact h4
  exact hs p hp
theorem len_mine {prog : Program} {w : World} {A : Around} {E : Value → Shared → Prop} {s : Shared} {h₀ : Heap} {L l : Addr} {all : List (Addr × Obj)} {vs : List Value} {ns : List Int} {n : Nat} {Q : Value → Shared → Prop}
    (N : News h₀ L s.heap all) (hm : (l, W.listOf vs.toArray n) ∈ all) (hi : IntsAre vs ns) (hf : ns.length < 2 ^ 62) (h : Q (.int (ns.length : Nat) (s.toks + 1)) { s with toks := s.toks + 1 + 1 }) :
    wpAny (model prog w) A (call (.builtin "len") [.ref l]) Q E s := by
  have e : vs.toArray.size = ns.length := by rw [List.size_toArray]; exact hi.length
  refine len_list ⟨_, (N _ hm).1, rfl, _, rfl⟩ (by rw [e]; omega) (by rw [e]; exact h)

theorem ws_con (w : World) (mean : ExcName → Option Value) (mg mb : Str → Option Value) (news : List (Addr × Obj)) (z : Str) (tz : Tok) (hz : z.cps.size < 2 ^ 12) (ha : z.cps.all (· < 128) = true) (h120 : 120 ∈ z.cps.toList) :
   Con w mean mg mb 83 3 news [.str z tz] (RetW w.params news z tz (wsRun (z.cps.toList.takeWhile fun c => decide (c = 32 ∨ c = 9)))) := by
  unfold Con
  k_fill
  w_top on
  w_on
  k_with_none
  k_with "TL lt0" => (first | (with_reducible assumption) | (refine lt_t ?_ (by with_reducible assumption); k_extra "TL lt0") | (with_reducible exact And.left (by assumption)) | (with_reducible exact And.left (And.right (by assumption))) | (with_reducible exact And.left (And.right (And.right (by assumption)))) | (with_reducible exact And.left (And.right (And.right (And.right (by assumption))))) | (with_reducible exact And.left (And.right (And.right (And.right (And.right (by assumption)))))) | (with_reducible exact And.left (And.right (And.right (And.right (And.right (And.right (by assumption))))))) | (with_reducible exact And.left (And.right (And.right (And.right (And.right (And.right (And.right (by assumption)))))))) | (with_reducible exact And.left (And.right (And.right (And.right (And.right (And.right (And.right (And.right (by assumption))))))))) | (with_reducible exact And.left (And.right (And.right (And.right (And.right (And.right (And.right (And.right (And.right (by assumption)))))))))) | (with_reducible exact And.left (And.right (And.right (And.right (And.right (And.right (And.right (And.right (And.right (And.right (by assumption))))))))))) | (with_reducible exact And.left (And.right (And.right (And.right (And.right (And.right (And.right (And.right (And.right (And.right (And.right (by assumption)))))))))))) | (with_reducible exact And.left (And.right (And.right (And.right (And.right (And.right (And.right (And.right (And.right (And.right (And.right (And.right (by assumption))))))))))))) | (with_reducible exact And.left (And.right (And.right (And.right (And.right (And.right (And.right (And.right (And.right (And.right (And.right (And.right (And.right (by assumption)))))))))))))) | (with_reducible exact And.left (And.right (And.right (And.right (And.right (And.right (And.right (And.right (And.right (And.right (And.right (And.right (And.right (And.right (by assumption))))))))))))))) | (with_reducible exact And.left (And.right (And.right (And.right (And.right (And.right (And.right (And.right (And.right (And.right (And.right (And.right (And.right (And.right (And.right (by assumption)))))))))))))))) | (with_reducible exact And.left (And.right (And.right (And.right (And.right (And.right (And.right (And.right (And.right (And.right (And.right (And.right (And.right (And.right (And.right (And.right (by assumption))))))))))))))))) | (with_reducible exact And.left (And.right (And.right (And.right (And.right (And.right (And.right (And.right (And.right (And.right (And.right (And.right (And.right (And.right (And.right (And.right (And.right (by assumption)))))))))))))))))) | (with_reducible exact And.left (And.right (And.right (And.right (And.right (And.right (And.right (And.right (And.right (And.right (And.right (And.right (And.right (And.right (And.right (And.right (And.right (And.right (by assumption))))))))))))))))))) | (with_reducible exact And.left (And.right (And.right (And.right (And.right (And.right (And.right (And.right (And.right (And.right (And.right (And.right (And.right (And.right (And.right (And.right (And.right (And.right (And.right (by assumption)))))))))))))))))))) | (with_reducible exact And.left (And.right (And.right (And.right (And.right (And.right (And.right (And.right (And.right (And.right (And.right (And.right (And.right (And.right (And.right (And.right (And.right (And.right (And.right (And.right (by assumption))))))))))))))))))))) | (with_reducible exact And.left (And.right (And.right (And.right (And.right (And.right (And.right (And.right (And.right (And.right (And.right (And.right (And.right (And.right (And.right (And.right (And.right (And.right (And.right (And.right (And.right (by assumption)))))))))))))))))))))) | (with_reducible exact And.left (And.right (And.right (And.right (And.right (And.right (And.right (And.right (And.right (And.right (And.right (And.right (And.right (And.right (And.right (And.right (And.right (And.right (And.right (And.right (And.right (And.right (by assumption))))))))))))))))))))))) | (with_reducible exact And.left (And.right (And.right (And.right (And.right (And.right (And.right (And.right (And.right (And.right (And.right (And.right (And.right (And.right (And.right (And.right (And.right (And.right (And.right (And.right (And.right (And.right (And.right (by assumption)))))))))))))))))))))))) | (with_reducible exact And.left (And.right (And.right (And.right (And.right (And.right (And.right (And.right (And.right (And.right (And.right (And.right (And.right (And.right (And.right (And.right (And.right (And.right (And.right (And.right (And.right (And.right (And.right (And.right (by assumption))))))))))))))))))))))))) | (with_reducible exact And.right (by assumption)) | (with_reducible exact And.right (And.right (by assumption))) | (with_reducible exact And.right (And.right (And.right (by assumption)))) | (with_reducible exact And.right (And.right (And.right (And.right (by assumption))))) | (with_reducible exact And.right (And.right (And.right (And.right (And.right (by assumption)))))) | (with_reducible exact And.right (And.right (And.right (And.right (And.right (And.right (by assumption))))))) | (with_reducible exact And.right (And.right (And.right (And.right (And.right (And.right (And.right (by assumption)))))))) | (with_reducible exact And.right (And.right (And.right (And.right (And.right (And.right (And.right (And.right (by assumption))))))))) | (with_reducible exact And.right (And.right (And.right (And.right (And.right (And.right (And.right (And.right (And.right (by assumption)))))))))) | (with_reducible exact And.right (And.right (And.right (And.right (And.right (And.right (And.right (And.right (And.right (And.right (by assumption))))))))))) | (with_reducible exact And.right (And.right (And.right (And.right (And.right (And.right (And.right (And.right (And.right (And.right (And.right (by assumption)))))))))))) | (with_reducible exact And.right (And.right (And.right (And.right (And.right (And.right (And.right (And.right (And.right (And.right (And.right (And.right (by assumption))))))))))))) | (with_reducible exact And.right (And.right (And.right (And.right (And.right (And.right (And.right (And.right (And.right (And.right (And.right (And.right (And.right (by assumption)))))))))))))) | (with_reducible exact And.right (And.right (And.right (And.right (And.right (And.right (And.right (And.right (And.right (And.right (And.right (And.right (And.right (And.right (by assumption))))))))))))))) | (with_reducible exact And.right (And.right (And.right (And.right (And.right (And.right (And.right (And.right (And.right (And.right (And.right (And.right (And.right (And.right (And.right (by assumption)))))))))))))))) | (with_reducible exact And.right (And.right (And.right (And.right (And.right (And.right (And.right (And.right (And.right (And.right (And.right (And.right (And.right (And.right (And.right (And.right (by assumption))))))))))))))))) | (with_reducible exact And.right (And.right (And.right (And.right (And.right (And.right (And.right (And.right (And.right (And.right (And.right (And.right (And.right (And.right (And.right (And.right (And.right (by assumption)))))))))))))))))) | (with_reducible exact And.right (And.right (And.right (And.right (And.right (And.right (And.right (And.right (And.right (And.right (And.right (And.right (And.right (And.right (And.right (And.right (And.right (And.right (by assumption))))))))))))))))))) | (with_reducible exact And.right (And.right (And.right (And.right (And.right (And.right (And.right (And.right (And.right (And.right (And.right (And.right (And.right (And.right (And.right (And.right (And.right (And.right (And.right (by assumption)))))))))))))))))))) | (with_reducible exact And.right (And.right (And.right (And.right (And.right (And.right (And.right (And.right (And.right (And.right (And.right (And.right (And.right (And.right (And.right (And.right (And.right (And.right (And.right (And.right (by assumption))))))))))))))))))))) | (with_reducible exact And.right (And.right (And.right (And.right (And.right (And.right (And.right (And.right (And.right (And.right (And.right (And.right (And.right (And.right (And.right (And.right (And.right (And.right (And.right (And.right (And.right (by assumption)))))))))))))))))))))) | (with_reducible exact And.right (And.right (And.right (And.right (And.right (And.right (And.right (And.right (And.right (And.right (And.right (And.right (And.right (And.right (And.right (And.right (And.right (And.right (And.right (And.right (And.right (And.right (by assumption))))))))))))))))))))))) | (with_reducible exact And.right (And.right (And.right (And.right (And.right (And.right (And.right (And.right (And.right (And.right (And.right (And.right (And.right (And.right (And.right (And.right (And.right (And.right (And.right (And.right (And.right (And.right (And.right (by assumption)))))))))))))))))))))))))
  k_with "TL ne0" => (refine neN ?_; (try dsimp only); first | (with_reducible assumption) | (refine Ne.symm ?_; with_reducible assumption) | (with_reducible exact And.left (by assumption)) | (with_reducible exact And.left (And.right (by assumption))) | (with_reducible exact And.left (And.right (And.right (by assumption)))) | (with_reducible exact And.left (And.right (And.right (And.right (by assumption))))) | (with_reducible exact And.left (And.right (And.right (And.right (And.right (by assumption)))))) | (with_reducible exact And.left (And.right (And.right (And.right (And.right (And.right (by assumption))))))) | (with_reducible exact Ne.symm <| And.left (by assumption)) | (with_reducible exact Ne.symm <| And.left (And.right (by assumption))) | (with_reducible exact Ne.symm <| And.left (And.right (And.right (by assumption)))) | (with_reducible exact Ne.symm <| And.left (And.right (And.right (And.right (by assumption))))) | (with_reducible exact Ne.symm <| And.left (And.right (And.right (And.right (And.right (by assumption)))))) | (with_reducible exact Ne.symm <| And.left (And.right (And.right (And.right (And.right (And.right (by assumption))))))) | (refine ne_gt ?_; k_extra "TL lt0") | (refine ne_lt ?_; k_extra "TL lt0"))
  k_with "TL le" => (first | (with_reducible assumption) | (with_reducible exact Nat.le_refl _) | (with_reducible exact Nat.succ_le_of_lt (by assumption)) | (with_reducible exact Nat.le_of_lt (by assumption)) | (with_reducible refine le_ss ?_; k_extra "TL le") | ((fail_if_success (with_reducible refine le_ss ?_)); with_reducible refine le_s ?_; k_extra "TL le") | ((fail_if_success (with_reducible refine le_s ?_)); refine le_t ?_ (by with_reducible assumption); k_extra "TL le") | ((fail_if_success (with_reducible refine le_s ?_)); refine le_t ?_ (Nat.le_of_lt (by with_reducible assumption)); k_extra "TL le"))
  k_with "TL mem" => (assumption)
  k_with "TL@ call builtin:len cons nil" => ((k_here; (with_reducible show wpAny _ _ (call (Value.builtin "len") [Value.ref _]) _ _ _); k_dflt (refine' len_mine ?N ?hm ?hi ?hf ?_; (case N => k_asm); (case hm => k_mem); (case hi => assumption); (case hf => assumption))))
  k_with "TL all" => (first | exact ne_of_all_lt (by assumption) | exact off1_all (by ((first | assumption | exact And.right (by assumption) | exact And.right (And.right (by assumption)) | exact And.right (And.right (And.right (by assumption))) | exact And.right (And.right (And.right (And.right (by assumption)))) | exact And.right (And.right (And.right (And.right (And.right (by assumption))))) | exact And.right (And.right (And.right (And.right (And.right (And.right (by assumption)))))) | exact And.right (And.right (And.right (And.right (And.right (And.right (And.right (by assumption)))))))))) | exact ne_of_allLt (by ((first | assumption | exact And.right (by assumption) | exact And.right (And.right (by assumption)) | exact And.right (And.right (And.right (by assumption))) | exact And.right (And.right (And.right (And.right (by assumption)))) | exact And.right (And.right (And.right (And.right (And.right (by assumption))))) | exact And.right (And.right (And.right (And.right (And.right (And.right (by assumption)))))) | exact And.right (And.right (And.right (And.right (And.right (And.right (And.right (by assumption)))))))))))
  intro dp un gd cn cs a ccd cl outer A₀ base h₀ L m s Q E B F X N T hk hdp hu hret
  k_dflt (refine' call_cls ?k1 ?k2 ?k3 ?k4 ?k5 ?k6 ?_; (case k1 => k_asm); (case k2 => k_asm); (case k3 => k_asm); (case k4 => k_is); (case k5 => k_is); (case k6 => k_is); k_whole; intro x' d' h' F' N' l1 l2; (try k_lt l1); (try k_lt2 l2); (try k_sweep))
  ((k_dflt (refine' code_def ?k1 ?k2 ?k3 ?k4 ?k5 ?kA ?kF ?kK ?k6 ?k7 ?k8 ?k9 ?kB ?_ ?c2 ?c3 ?c4 ?c5; (case kA => exact rfl); (case kF => exact rfl); (case kK => assumption); (case k1 => k_asm); (case k2 => k_asm); (case k3 => k_asm); (case k4 => k_asm); (case k5 => k_asm); (case k6 => k_is); (case k7 => k_is); (case k8 => ktr_room); (case k9 => first | exact BindsTo.of_eq rfl | exact binds_K (by k_in) rfl (by k_is) rfl rfl rfl); (case c5 => decide); (case kB => exact locs rfl); (case c2 => exact rfl); (case c3 => exact rfl); (case c4 => exact rfl); k_whole; intro gq9' Lq9' hq9' FGq9' Fq9' Nq9' Bq9' Xq9' Tq9'; (try dsimp only); (try k_lift Bq9'); (try k_fold))))
  k_with "pyIter str" => (k_dflt (refine' loop_str (wsJ ?base ?m0 z) ?hh ha ?F ?N ?hj ?turn ?done; (case hh => exact rfl); (case F => k_asm); (case N => k_asm); (case hj => (refine' ⟨_, [], _, ⟨[], 0, 0, 0⟩, _, _, _, rfl, .nil, ?off, rfl, rfl, rfl, rfl, fun _ _ _ _ _ _ => rfl, rfl, ?e1, ?e2, ?e3, ?e4⟩; (case off => exact off1_of_lt (by assumption)); (case e1 => simp); (case e2 => decide); (case e3 => decide); (case e4 => decide)))); (case' turn => (rintro i c₀ u m₁ nw h tk I oI hc ⟨c, vs, j, v, tb, tn, tt, rfl, hI, hoff, h1, h2, h3, h4, h5, hD⟩ hn F' N' _ rfl; rw [ws_map h1 h2 h3 h4 h5] at F'; clear h1 h2 h3 h4 h5; (have hoff2 := hoff); (simp only [LCg.Off1, and_true] at hoff2); (have hcI : @Ne Nat c I := hn _ (.head _)); (have hnI := off1_of hn); (simp only [LCg.Off1, and_true] at hnI); (have hi2 : i < 2 ^ 12 := Nat.lt_trans (Array.getElem?_eq_some_iff.mp hc).1 hz); (have hb0 := hD.2.2.1); (have hb1 := hD.2.2.2.1); (have hkl := hD.2.2.2.2); (have hfit : v.k.length < 2 ^ 62 := by omega))); (case' done => (rintro m₁ nw h tk ⟨c, vs, j, v, tb, tn, tt, rfl, hI, hoff, h1, h2, h3, h4, h5, hD⟩ F' N'; exact absurd (hD.2.1 120 (by rw [List.take_of_length_le (by simp)]; exact h120)) (by decide))))
  k_with "call type:tuple cons nil" => (k_dflt (refine' kde_tupleOf ?k1 ?k2 ?k3 ?k4 ?k5 ?_; (case k1 => k_asm); (case k2 => k_asm); (case k3 => exact News.isList (by k_asm) (by k_mem)); (case k4 => (rw [List.size_toArray, IntsAre.length (by assumption)]; omega)); (case k5 => rfl); k_whole); intro D' h' F' N' l1; (try k_lt l1); (try k_sweep))
  k_with "TurnEnd next" => (k_dflt (first
    | (obtain rfl := sign_eq (x := Str.ofString " ") (k := 32) (by decide) (by assumption); refine turn_next _ (by k_asm) (by k_asm) (fun _ h => h) hn ⟨c, vs, j, wsStep v 32, _, _, _, rfl, hI, hoff, rfl, rfl, rfl, rfl, fun y e1 e2 e3 e4 e5 => by simp only [e1, e2, e3, e4, e5, if_false], wsD_step hD hc (.inl rfl)⟩)
    | (obtain rfl := sign_eq (x := Str.ofString "\t") (k := 9) (by decide) (by assumption); refine' ws_turn (v' := wsStep v 9) ?F ?N ?r1 ?r2 ?r3 ?r4 ?r5 ?hI ?hm ?hs ?hi ?hoff ?hcI (fun p hp => hn p (.tail _ hp)) (wsD_step hD hc (.inr rfl)); (case F => k_asm); (case N => k_asm); (case r1 => rfl); (case r2 => rfl); (case r3 => rfl); (case r4 => rfl); (case r5 => (intro y e1 e2 e3 e4 e5; simp only [e1, e2, e3, e4, e5, if_false])); (case hI => (show IntsAre _ ((grown v.k v.b).set _ _); first | (rw [grown_pos (by assumption)]; assumption) | (rw [grown_neg (by assumption)]; assumption))); (case hm => k_mem); (case hs => kcf_all); (case hi => k_mem); (case hoff => first | exact hoff | (refine ⟨by omega, by omega, by omega, ?_⟩; exact off1_of_lt (by ((first | assumption | exact And.right (by assumption) | exact And.right (And.right (by assumption)) | exact And.right (And.right (And.right (by assumption))) | exact And.right (And.right (And.right (And.right (by assumption)))) | exact And.right (And.right (And.right (And.right (And.right (by assumption))))) | exact And.right (And.right (And.right (And.right (And.right (And.right (by assumption)))))) | exact And.right (And.right (And.right (And.right (And.right (And.right (And.right (by assumption)))))))))))); (case hcI => first | exact hcI | omega))))
  k_with "TurnEnd brk" => (k_dflt (refine turn_brk ?_; (have hv := wsD_end hD hc (sign_ne (x := Str.ofString " ") (k := 32) (by decide) (by assumption)) (sign_ne (x := Str.ofString "\t") (k := 9) (by decide) (by assumption))); (try dsimp only)))
  w_strict (k_steps; all_goals first
    | (refine' ret_w hret hv ?F ?Nw ?h1 ?h2 ?h3 ?h4 ?hs ?hI ?l1 ?l2 ?l3 ?l4; (case F => k_asm); (case Nw => k_asm); (case h1 => k_mem); (case h2 => k_mem); (case h3 => k_mem); (case h4 => k_mem); (case hs => kcf_all); (case hI => assumption); (case l1 => assumption); (case l2 => omega); (case l3 => omega); (case l4 => omega)))
end TL
end

section
open PySem PySem.W PySem.Spec PySem.Calls PyProof.Rows
set_option maxRecDepth 100000
set_option maxHeartbeats 8000000
namespace TL

/-- x is a Whitespace of the ledger's, its reckoning v -/
def IsWs (P : Params) (news : List (Addr × Obj)) (x : Addr) (v : WsV) : Prop :=
  ∃ (d N T : Addr) (vs : List Value) (z : Str) (tz : Tok) (sb : Bool) (k1 k2 k3 k4 k5 tn tt tb : Tok), (x, instObj 83 d) ∈ news ∧ (d, dictOf (wsEs P z tz v N sb k1 k2 k3 k4 k5 tn tt) 5) ∈ news ∧ (N, tupO #[.ref T, .int v.b tb]) ∈ news ∧ (T, tupO vs.toArray) ∈ news ∧ IntsAre vs v.k
theorem IsWs.mono {P : Params} {news news' : List (Addr × Obj)} {x : Addr} {v : WsV} (h : IsWs P news x v) (hs : ∀ p ∈ news, p ∈ news') : IsWs P news' x v := by
  obtain ⟨d, N, T, vs, z, tz, sb, k1, k2, k3, k4, k5, tn, tt, tb, h1, h2, h3, h4, h5⟩ := h
  exact ⟨d, N, T, vs, z, tz, sb, k1, k2, k3, k4, k5, tn, tt, tb, hs _ h1, hs _ h2, hs _ h3, hs _ h4, h5⟩

theorem dat_eq {prog : Program} {w : World} {A : Around} {E : Value → Shared → Prop} {s : Shared} {h₀ : Heap} {L : Addr} {all : List (Addr × Obj)} {a b : Value} {d e : Dat} {Q : Value → Shared → Prop} {r : Bool}
    (N : News h₀ L s.heap all) (ha : DatIn all a d) (hb : DatIn all b e) (oa : kqdOk 8 d = true) (ob : kqdOk 8 e = true) (hr : r = true ↔ d = e) (hu : A.units + 64 < cLine) (h : Q (.bool r) s) :
    wpAny (model prog w) A (compareOp .Eq a b) Q E s := by
  obtain ⟨as, ra⟩ := kqd_in N 8 ha oa
  obtain ⟨bs, rb⟩ := kqd_in N 8 hb ob
  have la := kqd_lay 8 d oa
  have lb := kqd_lay 8 e ob
  have q := kqd_eqv 8 d e 8 oa ob
  have e' : PyData.eqv (kqdP d) (kqdP e) = r := Bool.eq_iff_iff.mpr (q.trans hr.symm)
  refine eq_dataH ra rb ?_ ?_ hu (by rw [e']; exact h)
  · unfold SeqAt.shaped; rw [la.1, Bool.true_and]; exact decide_eq_true (Nat.le_trans la.2 (by decide))
  · unfold SeqAt.shaped; rw [lb.1, Bool.true_and]; exact decide_eq_true (Nat.le_trans lb.2 (by decide))
theorem dat_ne {prog : Program} {w : World} {A : Around} {E : Value → Shared → Prop} {s : Shared} {h₀ : Heap} {L : Addr} {all : List (Addr × Obj)} {a b : Value} {d e : Dat} {Q : Value → Shared → Prop} {r : Bool}
    (N : News h₀ L s.heap all) (ha : DatIn all a d) (hb : DatIn all b e) (oa : kqdOk 8 d = true) (ob : kqdOk 8 e = true) (hr : r = true ↔ d = e) (hu : A.units + 64 < cLine) (h : Q (.bool (!r)) s) :
    wpAny (model prog w) A (compareOp .NotEq a b) Q E s := by
  obtain ⟨as, ra⟩ := kqd_in N 8 ha oa
  obtain ⟨bs, rb⟩ := kqd_in N 8 hb ob
  have la := kqd_lay 8 d oa
  have lb := kqd_lay 8 e ob
  have q := kqd_eqv 8 d e 8 oa ob
  have e' : PyData.eqv (kqdP d) (kqdP e) = r := Bool.eq_iff_iff.mpr (q.trans hr.symm)
  refine ne_dataH ra rb ?_ ?_ hu (by rw [e']; exact h)
  · unfold SeqAt.shaped; rw [la.1, Bool.true_and]; exact decide_eq_true (Nat.le_trans la.2 (by decide))
  · unfold SeqAt.shaped; rw [lb.1, Bool.true_and]; exact decide_eq_true (Nat.le_trans lb.2 (by decide))
theorem dat_ints {all : List (Addr × Obj)} : ∀ {vs : List Value} {ns : List Int}, IntsAre vs ns → DatAll all vs (ns.map Dat.int)
  | _, _, .nil => .nil
  | _, _, .cons n t r => .cons (.int n t) (dat_ints r)
def normD (v : WsV) : Dat := .tuple [.tuple (v.k.map Dat.int), .int v.b]
theorem normD_in {all : List (Addr × Obj)} {N T : Addr} {vs : List Value} {v : WsV} {tb : Tok} (h1 : (N, tupO #[.ref T, .int v.b tb]) ∈ all) (h2 : (T, tupO vs.toArray) ∈ all) (h3 : IntsAre vs v.k) : DatIn all (.ref N) (normD v) :=
  .tuple (vs := [.ref T, .int v.b tb]) h1 (.cons (.tuple h2 (dat_ints h3)) (.cons (.int _ _) .nil))
theorem normD_ok (v : WsV) : kqdOk 8 (normD v) = true := by
  simp [normD, kqdOk]
theorem normD_inj (v u : WsV) : (decide (v.k = u.k ∧ v.b = u.b) = true) ↔ normD v = normD u := by
  have hm : ∀ {a b : List Int}, a.map Dat.int = b.map Dat.int → a = b := by
    intro a
    induction a with
    | nil => intro b h; cases b with
      | nil => rfl
      | cons _ _ => cases h
    | cons x r ih => intro b h; cases b with
      | nil => cases h
      | cons y q =>
        simp only [List.map_cons, List.cons.injEq, Dat.int.injEq] at h
        rw [h.1, ih h.2]
  rw [decide_eq_true_eq]
  unfold normD
  simp only [Dat.tuple.injEq, List.cons.injEq, Dat.int.injEq, and_true]
  exact ⟨fun h => ⟨by rw [h.1], h.2⟩, fun h => ⟨hm h.1, h.2⟩⟩

theorem equal_con (w : World) (mean : ExcName → Option Value) (mg mb : Str → Option Value) (news : List (Addr × Obj)) (x y : Addr) (v u : WsV) (hx : IsWs w.params news x v) (hy : IsWs w.params news y u) :
   Con w mean mg mb 59 10 news [.ref x, .ref y] (RetV news (fun _ => .bool (decide (v.k = u.k ∧ v.b = u.b)))) := by
  unfold Con
  k_fill
  w_top on
  w_on
  k_with_none
  k_with "TL lt0" => (first | (with_reducible assumption) | (refine lt_t ?_ (by with_reducible assumption); k_extra "TL lt0") | (with_reducible exact And.left (by assumption)) | (with_reducible exact And.left (And.right (by assumption))) | (with_reducible exact And.left (And.right (And.right (by assumption)))) | (with_reducible exact And.left (And.right (And.right (And.right (by assumption))))) | (with_reducible exact And.left (And.right (And.right (And.right (And.right (by assumption)))))) | (with_reducible exact And.left (And.right (And.right (And.right (And.right (And.right (by assumption))))))) | (with_reducible exact And.left (And.right (And.right (And.right (And.right (And.right (And.right (by assumption)))))))) | (with_reducible exact And.left (And.right (And.right (And.right (And.right (And.right (And.right (And.right (by assumption))))))))) | (with_reducible exact And.left (And.right (And.right (And.right (And.right (And.right (And.right (And.right (And.right (by assumption)))))))))) | (with_reducible exact And.left (And.right (And.right (And.right (And.right (And.right (And.right (And.right (And.right (And.right (by assumption))))))))))) | (with_reducible exact And.left (And.right (And.right (And.right (And.right (And.right (And.right (And.right (And.right (And.right (And.right (by assumption)))))))))))) | (with_reducible exact And.left (And.right (And.right (And.right (And.right (And.right (And.right (And.right (And.right (And.right (And.right (And.right (by assumption))))))))))))) | (with_reducible exact And.left (And.right (And.right (And.right (And.right (And.right (And.right (And.right (And.right (And.right (And.right (And.right (And.right (by assumption)))))))))))))) | (with_reducible exact And.left (And.right (And.right (And.right (And.right (And.right (And.right (And.right (And.right (And.right (And.right (And.right (And.right (And.right (by assumption))))))))))))))) | (with_reducible exact And.left (And.right (And.right (And.right (And.right (And.right (And.right (And.right (And.right (And.right (And.right (And.right (And.right (And.right (And.right (by assumption)))))))))))))))) | (with_reducible exact And.left (And.right (And.right (And.right (And.right (And.right (And.right (And.right (And.right (And.right (And.right (And.right (And.right (And.right (And.right (And.right (by assumption))))))))))))))))) | (with_reducible exact And.left (And.right (And.right (And.right (And.right (And.right (And.right (And.right (And.right (And.right (And.right (And.right (And.right (And.right (And.right (And.right (And.right (by assumption)))))))))))))))))) | (with_reducible exact And.left (And.right (And.right (And.right (And.right (And.right (And.right (And.right (And.right (And.right (And.right (And.right (And.right (And.right (And.right (And.right (And.right (And.right (by assumption))))))))))))))))))) | (with_reducible exact And.left (And.right (And.right (And.right (And.right (And.right (And.right (And.right (And.right (And.right (And.right (And.right (And.right (And.right (And.right (And.right (And.right (And.right (And.right (by assumption)))))))))))))))))))) | (with_reducible exact And.left (And.right (And.right (And.right (And.right (And.right (And.right (And.right (And.right (And.right (And.right (And.right (And.right (And.right (And.right (And.right (And.right (And.right (And.right (And.right (by assumption))))))))))))))))))))) | (with_reducible exact And.left (And.right (And.right (And.right (And.right (And.right (And.right (And.right (And.right (And.right (And.right (And.right (And.right (And.right (And.right (And.right (And.right (And.right (And.right (And.right (And.right (by assumption)))))))))))))))))))))) | (with_reducible exact And.left (And.right (And.right (And.right (And.right (And.right (And.right (And.right (And.right (And.right (And.right (And.right (And.right (And.right (And.right (And.right (And.right (And.right (And.right (And.right (And.right (And.right (by assumption))))))))))))))))))))))) | (with_reducible exact And.left (And.right (And.right (And.right (And.right (And.right (And.right (And.right (And.right (And.right (And.right (And.right (And.right (And.right (And.right (And.right (And.right (And.right (And.right (And.right (And.right (And.right (And.right (by assumption)))))))))))))))))))))))) | (with_reducible exact And.left (And.right (And.right (And.right (And.right (And.right (And.right (And.right (And.right (And.right (And.right (And.right (And.right (And.right (And.right (And.right (And.right (And.right (And.right (And.right (And.right (And.right (And.right (And.right (by assumption))))))))))))))))))))))))) | (with_reducible exact And.right (by assumption)) | (with_reducible exact And.right (And.right (by assumption))) | (with_reducible exact And.right (And.right (And.right (by assumption)))) | (with_reducible exact And.right (And.right (And.right (And.right (by assumption))))) | (with_reducible exact And.right (And.right (And.right (And.right (And.right (by assumption)))))) | (with_reducible exact And.right (And.right (And.right (And.right (And.right (And.right (by assumption))))))) | (with_reducible exact And.right (And.right (And.right (And.right (And.right (And.right (And.right (by assumption)))))))) | (with_reducible exact And.right (And.right (And.right (And.right (And.right (And.right (And.right (And.right (by assumption))))))))) | (with_reducible exact And.right (And.right (And.right (And.right (And.right (And.right (And.right (And.right (And.right (by assumption)))))))))) | (with_reducible exact And.right (And.right (And.right (And.right (And.right (And.right (And.right (And.right (And.right (And.right (by assumption))))))))))) | (with_reducible exact And.right (And.right (And.right (And.right (And.right (And.right (And.right (And.right (And.right (And.right (And.right (by assumption)))))))))))) | (with_reducible exact And.right (And.right (And.right (And.right (And.right (And.right (And.right (And.right (And.right (And.right (And.right (And.right (by assumption))))))))))))) | (with_reducible exact And.right (And.right (And.right (And.right (And.right (And.right (And.right (And.right (And.right (And.right (And.right (And.right (And.right (by assumption)))))))))))))) | (with_reducible exact And.right (And.right (And.right (And.right (And.right (And.right (And.right (And.right (And.right (And.right (And.right (And.right (And.right (And.right (by assumption))))))))))))))) | (with_reducible exact And.right (And.right (And.right (And.right (And.right (And.right (And.right (And.right (And.right (And.right (And.right (And.right (And.right (And.right (And.right (by assumption)))))))))))))))) | (with_reducible exact And.right (And.right (And.right (And.right (And.right (And.right (And.right (And.right (And.right (And.right (And.right (And.right (And.right (And.right (And.right (And.right (by assumption))))))))))))))))) | (with_reducible exact And.right (And.right (And.right (And.right (And.right (And.right (And.right (And.right (And.right (And.right (And.right (And.right (And.right (And.right (And.right (And.right (And.right (by assumption)))))))))))))))))) | (with_reducible exact And.right (And.right (And.right (And.right (And.right (And.right (And.right (And.right (And.right (And.right (And.right (And.right (And.right (And.right (And.right (And.right (And.right (And.right (by assumption))))))))))))))))))) | (with_reducible exact And.right (And.right (And.right (And.right (And.right (And.right (And.right (And.right (And.right (And.right (And.right (And.right (And.right (And.right (And.right (And.right (And.right (And.right (And.right (by assumption)))))))))))))))))))) | (with_reducible exact And.right (And.right (And.right (And.right (And.right (And.right (And.right (And.right (And.right (And.right (And.right (And.right (And.right (And.right (And.right (And.right (And.right (And.right (And.right (And.right (by assumption))))))))))))))))))))) | (with_reducible exact And.right (And.right (And.right (And.right (And.right (And.right (And.right (And.right (And.right (And.right (And.right (And.right (And.right (And.right (And.right (And.right (And.right (And.right (And.right (And.right (And.right (by assumption)))))))))))))))))))))) | (with_reducible exact And.right (And.right (And.right (And.right (And.right (And.right (And.right (And.right (And.right (And.right (And.right (And.right (And.right (And.right (And.right (And.right (And.right (And.right (And.right (And.right (And.right (And.right (by assumption))))))))))))))))))))))) | (with_reducible exact And.right (And.right (And.right (And.right (And.right (And.right (And.right (And.right (And.right (And.right (And.right (And.right (And.right (And.right (And.right (And.right (And.right (And.right (And.right (And.right (And.right (And.right (And.right (by assumption)))))))))))))))))))))))))
  k_with "TL ne0" => (refine neN ?_; (try dsimp only); first | (with_reducible assumption) | (refine Ne.symm ?_; with_reducible assumption) | (with_reducible exact And.left (by assumption)) | (with_reducible exact And.left (And.right (by assumption))) | (with_reducible exact And.left (And.right (And.right (by assumption)))) | (with_reducible exact And.left (And.right (And.right (And.right (by assumption))))) | (with_reducible exact And.left (And.right (And.right (And.right (And.right (by assumption)))))) | (with_reducible exact And.left (And.right (And.right (And.right (And.right (And.right (by assumption))))))) | (with_reducible exact Ne.symm <| And.left (by assumption)) | (with_reducible exact Ne.symm <| And.left (And.right (by assumption))) | (with_reducible exact Ne.symm <| And.left (And.right (And.right (by assumption)))) | (with_reducible exact Ne.symm <| And.left (And.right (And.right (And.right (by assumption))))) | (with_reducible exact Ne.symm <| And.left (And.right (And.right (And.right (And.right (by assumption)))))) | (with_reducible exact Ne.symm <| And.left (And.right (And.right (And.right (And.right (And.right (by assumption))))))) | (refine ne_gt ?_; k_extra "TL lt0") | (refine ne_lt ?_; k_extra "TL lt0"))
  k_with "TL le" => (first | (with_reducible assumption) | (with_reducible exact Nat.le_refl _) | (with_reducible exact Nat.succ_le_of_lt (by assumption)) | (with_reducible exact Nat.le_of_lt (by assumption)) | (with_reducible refine le_ss ?_; k_extra "TL le") | ((fail_if_success (with_reducible refine le_ss ?_)); with_reducible refine le_s ?_; k_extra "TL le") | ((fail_if_success (with_reducible refine le_s ?_)); refine le_t ?_ (by with_reducible assumption); k_extra "TL le") | ((fail_if_success (with_reducible refine le_s ?_)); refine le_t ?_ (Nat.le_of_lt (by with_reducible assumption)); k_extra "TL le"))
  k_with "TL mem" => (assumption)
  k_with "TL@ compareOp Eq ref ref" => (k_extra "TL eq")
  intro dp un gd cn cs a ccd cl outer A₀ base h₀ L m s Q E B F X N T hk hdp hu hret
  obtain ⟨d, N₁, T₁, vs, z, tz, sb, k1, k2, k3, k4, k5, tn, tt, tb, h1, h2, h3, h4, h5⟩ := hx
  obtain ⟨d', N₂, T₂, vs', z', tz', sb', k1', k2', k3', k4', k5', tn', tt', tb', h1', h2', h3', h4', h5'⟩ := hy
  refine wpAny_call ?_
  k_dflt cell_enter
  k_with "TL eq" => (k_dflt (refine' dat_eq ?N (normD_in h3 h4 h5) (normD_in h3' h4' h5') (normD_ok v) (normD_ok u) (normD_inj v u) ?hu ?_; (case N => k_asm); (case hu => exact Nat.lt_of_le_of_lt (show un + 3 + 64 ≤ un + 8 * 10 by omega) hu)))
  w_strict (k_steps; all_goals first
    | exact hret 0 _ _ (by assumption) (by assumption))
end TL
end

section
open PySem PySem.W PySem.Spec PySem.Calls PyProof.Rows
set_option maxRecDepth 100000
set_option maxHeartbeats 8000000
namespace TL

theorem len_tupI {prog : Program} {w : World} {A : Around} {E : Value → Shared → Prop} {s : Shared} {h₀ : Heap} {L l : Addr} {all : List (Addr × Obj)} {vs : List Value} {ns : List Int} {Q : Value → Shared → Prop}
    (N : News h₀ L s.heap all) (hm : (l, tupO vs.toArray) ∈ all) (hi : IntsAre vs ns) (hf : ns.length < 2 ^ 12) (h : Q (.int (ns.length : Nat) (s.toks + 1)) { s with toks := s.toks + 1 + 1 }) :
    wpAny (model prog w) A (call (.builtin "len") [.ref l]) Q E s := by
  have e : vs.toArray.size = ns.length := by rw [List.size_toArray]; exact hi.length
  refine len_tuple ⟨_, (N _ hm).1, rfl, _, rfl⟩ (by rw [e]; omega) (by rw [e]; exact h)
theorem run_con (w : World) (mean : ExcName → Option Value) (mg mb : Str → Option Value) (news : List (Addr × Obj)) (x : Addr) (v : WsV) (hx : IsWs w.params news x v) (hl : v.k.length < 2 ^ 12) :
   Con w mean mg mb 45 2 news [.ref x] (RetV news (.int (if v.b > (v.k.length : Int) - 1 then v.b else (v.k.length : Int) - 1))) := by
  unfold Con
  k_fill
  w_top on
  w_on
  k_with_none
  k_with "TL lt0" => (first | (with_reducible assumption) | (refine lt_t ?_ (by with_reducible assumption); k_extra "TL lt0") | (with_reducible exact And.left (by assumption)) | (with_reducible exact And.left (And.right (by assumption))) | (with_reducible exact And.left (And.right (And.right (by assumption)))) | (with_reducible exact And.left (And.right (And.right (And.right (by assumption))))) | (with_reducible exact And.left (And.right (And.right (And.right (And.right (by assumption)))))) | (with_reducible exact And.left (And.right (And.right (And.right (And.right (And.right (by assumption))))))) | (with_reducible exact And.left (And.right (And.right (And.right (And.right (And.right (And.right (by assumption)))))))) | (with_reducible exact And.left (And.right (And.right (And.right (And.right (And.right (And.right (And.right (by assumption))))))))) | (with_reducible exact And.left (And.right (And.right (And.right (And.right (And.right (And.right (And.right (And.right (by assumption)))))))))) | (with_reducible exact And.left (And.right (And.right (And.right (And.right (And.right (And.right (And.right (And.right (And.right (by assumption))))))))))) | (with_reducible exact And.left (And.right (And.right (And.right (And.right (And.right (And.right (And.right (And.right (And.right (And.right (by assumption)))))))))))) | (with_reducible exact And.left (And.right (And.right (And.right (And.right (And.right (And.right (And.right (And.right (And.right (And.right (And.right (by assumption))))))))))))) | (with_reducible exact And.left (And.right (And.right (And.right (And.right (And.right (And.right (And.right (And.right (And.right (And.right (And.right (And.right (by assumption)))))))))))))) | (with_reducible exact And.left (And.right (And.right (And.right (And.right (And.right (And.right (And.right (And.right (And.right (And.right (And.right (And.right (And.right (by assumption))))))))))))))) | (with_reducible exact And.left (And.right (And.right (And.right (And.right (And.right (And.right (And.right (And.right (And.right (And.right (And.right (And.right (And.right (And.right (by assumption)))))))))))))))) | (with_reducible exact And.left (And.right (And.right (And.right (And.right (And.right (And.right (And.right (And.right (And.right (And.right (And.right (And.right (And.right (And.right (And.right (by assumption))))))))))))))))) | (with_reducible exact And.left (And.right (And.right (And.right (And.right (And.right (And.right (And.right (And.right (And.right (And.right (And.right (And.right (And.right (And.right (And.right (And.right (by assumption)))))))))))))))))) | (with_reducible exact And.left (And.right (And.right (And.right (And.right (And.right (And.right (And.right (And.right (And.right (And.right (And.right (And.right (And.right (And.right (And.right (And.right (And.right (by assumption))))))))))))))))))) | (with_reducible exact And.left (And.right (And.right (And.right (And.right (And.right (And.right (And.right (And.right (And.right (And.right (And.right (And.right (And.right (And.right (And.right (And.right (And.right (And.right (by assumption)))))))))))))))))))) | (with_reducible exact And.left (And.right (And.right (And.right (And.right (And.right (And.right (And.right (And.right (And.right (And.right (And.right (And.right (And.right (And.right (And.right (And.right (And.right (And.right (And.right (by assumption))))))))))))))))))))) | (with_reducible exact And.left (And.right (And.right (And.right (And.right (And.right (And.right (And.right (And.right (And.right (And.right (And.right (And.right (And.right (And.right (And.right (And.right (And.right (And.right (And.right (And.right (by assumption)))))))))))))))))))))) | (with_reducible exact And.left (And.right (And.right (And.right (And.right (And.right (And.right (And.right (And.right (And.right (And.right (And.right (And.right (And.right (And.right (And.right (And.right (And.right (And.right (And.right (And.right (And.right (by assumption))))))))))))))))))))))) | (with_reducible exact And.left (And.right (And.right (And.right (And.right (And.right (And.right (And.right (And.right (And.right (And.right (And.right (And.right (And.right (And.right (And.right (And.right (And.right (And.right (And.right (And.right (And.right (And.right (by assumption)))))))))))))))))))))))) | (with_reducible exact And.left (And.right (And.right (And.right (And.right (And.right (And.right (And.right (And.right (And.right (And.right (And.right (And.right (And.right (And.right (And.right (And.right (And.right (And.right (And.right (And.right (And.right (And.right (And.right (by assumption))))))))))))))))))))))))) | (with_reducible exact And.right (by assumption)) | (with_reducible exact And.right (And.right (by assumption))) | (with_reducible exact And.right (And.right (And.right (by assumption)))) | (with_reducible exact And.right (And.right (And.right (And.right (by assumption))))) | (with_reducible exact And.right (And.right (And.right (And.right (And.right (by assumption)))))) | (with_reducible exact And.right (And.right (And.right (And.right (And.right (And.right (by assumption))))))) | (with_reducible exact And.right (And.right (And.right (And.right (And.right (And.right (And.right (by assumption)))))))) | (with_reducible exact And.right (And.right (And.right (And.right (And.right (And.right (And.right (And.right (by assumption))))))))) | (with_reducible exact And.right (And.right (And.right (And.right (And.right (And.right (And.right (And.right (And.right (by assumption)))))))))) | (with_reducible exact And.right (And.right (And.right (And.right (And.right (And.right (And.right (And.right (And.right (And.right (by assumption))))))))))) | (with_reducible exact And.right (And.right (And.right (And.right (And.right (And.right (And.right (And.right (And.right (And.right (And.right (by assumption)))))))))))) | (with_reducible exact And.right (And.right (And.right (And.right (And.right (And.right (And.right (And.right (And.right (And.right (And.right (And.right (by assumption))))))))))))) | (with_reducible exact And.right (And.right (And.right (And.right (And.right (And.right (And.right (And.right (And.right (And.right (And.right (And.right (And.right (by assumption)))))))))))))) | (with_reducible exact And.right (And.right (And.right (And.right (And.right (And.right (And.right (And.right (And.right (And.right (And.right (And.right (And.right (And.right (by assumption))))))))))))))) | (with_reducible exact And.right (And.right (And.right (And.right (And.right (And.right (And.right (And.right (And.right (And.right (And.right (And.right (And.right (And.right (And.right (by assumption)))))))))))))))) | (with_reducible exact And.right (And.right (And.right (And.right (And.right (And.right (And.right (And.right (And.right (And.right (And.right (And.right (And.right (And.right (And.right (And.right (by assumption))))))))))))))))) | (with_reducible exact And.right (And.right (And.right (And.right (And.right (And.right (And.right (And.right (And.right (And.right (And.right (And.right (And.right (And.right (And.right (And.right (And.right (by assumption)))))))))))))))))) | (with_reducible exact And.right (And.right (And.right (And.right (And.right (And.right (And.right (And.right (And.right (And.right (And.right (And.right (And.right (And.right (And.right (And.right (And.right (And.right (by assumption))))))))))))))))))) | (with_reducible exact And.right (And.right (And.right (And.right (And.right (And.right (And.right (And.right (And.right (And.right (And.right (And.right (And.right (And.right (And.right (And.right (And.right (And.right (And.right (by assumption)))))))))))))))))))) | (with_reducible exact And.right (And.right (And.right (And.right (And.right (And.right (And.right (And.right (And.right (And.right (And.right (And.right (And.right (And.right (And.right (And.right (And.right (And.right (And.right (And.right (by assumption))))))))))))))))))))) | (with_reducible exact And.right (And.right (And.right (And.right (And.right (And.right (And.right (And.right (And.right (And.right (And.right (And.right (And.right (And.right (And.right (And.right (And.right (And.right (And.right (And.right (And.right (by assumption)))))))))))))))))))))) | (with_reducible exact And.right (And.right (And.right (And.right (And.right (And.right (And.right (And.right (And.right (And.right (And.right (And.right (And.right (And.right (And.right (And.right (And.right (And.right (And.right (And.right (And.right (And.right (by assumption))))))))))))))))))))))) | (with_reducible exact And.right (And.right (And.right (And.right (And.right (And.right (And.right (And.right (And.right (And.right (And.right (And.right (And.right (And.right (And.right (And.right (And.right (And.right (And.right (And.right (And.right (And.right (And.right (by assumption)))))))))))))))))))))))))
  k_with "TL ne0" => (refine neN ?_; (try dsimp only); first | (with_reducible assumption) | (refine Ne.symm ?_; with_reducible assumption) | (with_reducible exact And.left (by assumption)) | (with_reducible exact And.left (And.right (by assumption))) | (with_reducible exact And.left (And.right (And.right (by assumption)))) | (with_reducible exact And.left (And.right (And.right (And.right (by assumption))))) | (with_reducible exact And.left (And.right (And.right (And.right (And.right (by assumption)))))) | (with_reducible exact And.left (And.right (And.right (And.right (And.right (And.right (by assumption))))))) | (with_reducible exact Ne.symm <| And.left (by assumption)) | (with_reducible exact Ne.symm <| And.left (And.right (by assumption))) | (with_reducible exact Ne.symm <| And.left (And.right (And.right (by assumption)))) | (with_reducible exact Ne.symm <| And.left (And.right (And.right (And.right (by assumption))))) | (with_reducible exact Ne.symm <| And.left (And.right (And.right (And.right (And.right (by assumption)))))) | (with_reducible exact Ne.symm <| And.left (And.right (And.right (And.right (And.right (And.right (by assumption))))))) | (refine ne_gt ?_; k_extra "TL lt0") | (refine ne_lt ?_; k_extra "TL lt0"))
  k_with "TL le" => (first | (with_reducible assumption) | (with_reducible exact Nat.le_refl _) | (with_reducible exact Nat.succ_le_of_lt (by assumption)) | (with_reducible exact Nat.le_of_lt (by assumption)) | (with_reducible refine le_ss ?_; k_extra "TL le") | ((fail_if_success (with_reducible refine le_ss ?_)); with_reducible refine le_s ?_; k_extra "TL le") | ((fail_if_success (with_reducible refine le_s ?_)); refine le_t ?_ (by with_reducible assumption); k_extra "TL le") | ((fail_if_success (with_reducible refine le_s ?_)); refine le_t ?_ (Nat.le_of_lt (by with_reducible assumption)); k_extra "TL le"))
  k_with "TL mem" => (assumption)
  k_with "TL@ call builtin:len cons nil" => ((k_dflt (refine' len_tupI ?N ?hm ?hi ?hf ?_; (case N => k_asm); (case hm => k_mem); (case hi => assumption); (case hf => assumption))))
  intro dp un gd cn cs a ccd cl outer A₀ base h₀ L m s Q E B F X N T hk hdp hu hret
  obtain ⟨d, N₁, T₁, vs, z, tz, sb, k1, k2, k3, k4, k5, tn, tt, tb, h1, h2, h3, h4, h5⟩ := hx
  refine wpAny_call ?_
  k_dflt cell_enter
  w_strict (k_steps; all_goals first
    | exact hret _ _ _ (by assumption) (by assumption))
end TL
end

section
open PySem PySem.W PySem.Spec PySem.Calls PyProof.Rows
set_option maxRecDepth 100000
set_option maxHeartbeats 8000000
namespace TL

/-- the columns that the tabs behind more than ts blanks add -/
def ilAcc (k : List Int) (ts : Int) (i : Nat) : Int := ((List.range i).map fun (j : Nat) => (ts + (j : Int)).fdiv ts * k.getD (ts + (j : Int)).toNat 0).sum
theorem ilAcc_zero (k : List Int) (ts : Int) : ilAcc k ts 0 = 0 := rfl
theorem il0 {o : Option Value} {k : List Int} {ts : Int} {t : Tok} (h : o = some (.int 0 t)) : o = some (.int (ilAcc k ts 0) t) := h
theorem ilAcc_succ (k : List Int) (ts : Int) (i : Nat) : ilAcc k ts (i + 1) = ilAcc k ts i + (ts + (i : Int)).fdiv ts * k.getD (ts + (i : Int)).toNat 0 := by
  unfold ilAcc
  rw [List.range_succ, List.map_append, List.sum_append]
  simp
def indentOf (v : WsV) (ts : Int) : Int := v.b + ts * (ilAcc v.k ts ((v.k.length : Int) - ts).toNat + v.nt)

def ilJ (base : List (Addr × Obj)) (m₀ : Str → Option Value) (k : List Int) (ts : Int) (i : Nat) (m₁ : Str → Option Value) (nw : List (Addr × Obj)) : Prop :=
  nw = base ∧ (∃ t, m₁ (Str.ofString "il") = some (.int (ilAcc k ts i) t)) ∧ ∀ y, y ≠ Str.ofString "il" → y ≠ Str.ofString "i" → m₁ y = m₀ y
theorem il_map {m₀ m₁ : Str → Option Value} {V a1 : Option Value} (h1 : m₁ (Str.ofString "il") = a1) (h5 : ∀ y, y ≠ Str.ofString "il" → y ≠ Str.ofString "i" → m₁ y = m₀ y) :
    (fun y => if y = Str.ofString "i" then V else m₁ y) = fun y => if y = Str.ofString "i" then V else if y = Str.ofString "il" then a1 else m₀ y := by
  funext y
  by_cases e0 : y = Str.ofString "i"
  · rw [if_pos e0, if_pos e0]
  rw [if_neg e0, if_neg e0]
  by_cases e1 : y = Str.ofString "il"
  · rw [if_pos e1, e1, h1]
  rw [if_neg e1]
  exact h5 y e1 e0
theorem il_mapD {m₀ m₁ : Str → Option Value} {a1 : Option Value} (h1 : m₁ (Str.ofString "il") = a1) (h5 : ∀ y, y ≠ Str.ofString "il" → y ≠ Str.ofString "i" → m₁ y = m₀ y) :
    m₁ = fun y => if y = Str.ofString "i" then m₁ (Str.ofString "i") else if y = Str.ofString "il" then a1 else m₀ y := by
  funext y
  by_cases e0 : y = Str.ofString "i"
  · rw [if_pos e0, e0]
  rw [if_neg e0]
  by_cases e1 : y = Str.ofString "il"
  · rw [if_pos e1, e1, h1]
  rw [if_neg e1]
  exact h5 y e1 e0
theorem item_tupI {prog : Program} {w : World} {A : Around} {E : Value → Shared → Prop} {s : Shared} {Q : Value → Shared → Prop} {h₀ : Heap} {L T : Addr} {all : List (Addr × Obj)} {vs : List Value} {ns : List Int} {u : Tok} {k : Int} {value slice : PySem.Expr}
    (N : News h₀ L s.heap all) (hm : (T, tupO vs.toArray) ∈ all) (hi : IntsAre vs ns) (h0 : 0 ≤ k) (h1 : k < ns.length) (hf : ns.length < 2 ^ 12)
    (h : ∀ t, Q (.int (ns.getD k.toNat 0) t) s)
    (hs : subscripted slice false (.ref T) (.int k u) = operate [.ref T, .int k u] (getItem (.ref T) (.int k u)) := by with_unfolding_all rfl) :
    wpAny (model prog w) A (subscriptTail value slice (.ref T) (.int k u)) Q E s := by
  have hl := hi.length
  have hlt : k.toNat < ns.length := by omega
  obtain ⟨n, t, e1, e2⟩ := IntsAre.at hi k.toNat (vs[k.toNat]'(by omega)) (by simp)
  have e : ns.getD k.toNat 0 = n := by rw [List.getD_eq_getElem?_getD, e2]; rfl
  refine item_tupleT (j := k.toNat) ⟨_, (N _ hm).1, rfl, _, rfl⟩ (by omega) (by omega) ?_ (x := .int n t) ?_ ?_ hs
  · have e0 : ¬ k < 0 := by omega
    have e1 : k < (vs.length : Int) := by rw [hl]; exact h1
    simp [seqIndex?, e0, e1, h0]
  · rw [← e1]; simp
  · rw [← e]; exact h t
theorem fdiv_small2 {ts : Int} {i : Nat} {n : Nat} (h1 : 1 ≤ ts) (hi : i < ((n : Int) - ts).toNat) (hn : n < 2 ^ 12) : 0 ≤ (ts + (i : Int)).fdiv ts ∧ (ts + (i : Int)).fdiv ts < 4096 := by
  rw [Int.fdiv_eq_ediv_of_nonneg _ (by omega)]
  exact ⟨Int.ediv_nonneg (by omega) (by omega), Int.lt_of_le_of_lt (Int.ediv_le_self _ (by omega)) (by omega)⟩

theorem indent_con (w : World) (mean : ExcName → Option Value) (mg mb : Str → Option Value) (news : List (Addr × Obj)) (x : Addr) (v : WsV) (ts : Int) (tts : Tok) (hx : IsWs w.params news x v) (hl : v.k.length < 2 ^ 12) (h1 : 1 ≤ ts) (h3 : ts ≤ 4) :
   Con w mean mg mb 52 2 news [.ref x, .int ts tts] (RetV news (.int (indentOf v ts))) := by
  unfold Con
  k_fill
  w_top on
  w_on
  k_with_none
  k_with "TL lt0" => (first | (with_reducible assumption) | (refine lt_t ?_ (by with_reducible assumption); k_extra "TL lt0") | (with_reducible exact And.left (by assumption)) | (with_reducible exact And.left (And.right (by assumption))) | (with_reducible exact And.left (And.right (And.right (by assumption)))) | (with_reducible exact And.left (And.right (And.right (And.right (by assumption))))) | (with_reducible exact And.left (And.right (And.right (And.right (And.right (by assumption)))))) | (with_reducible exact And.left (And.right (And.right (And.right (And.right (And.right (by assumption))))))) | (with_reducible exact And.left (And.right (And.right (And.right (And.right (And.right (And.right (by assumption)))))))) | (with_reducible exact And.left (And.right (And.right (And.right (And.right (And.right (And.right (And.right (by assumption))))))))) | (with_reducible exact And.left (And.right (And.right (And.right (And.right (And.right (And.right (And.right (And.right (by assumption)))))))))) | (with_reducible exact And.left (And.right (And.right (And.right (And.right (And.right (And.right (And.right (And.right (And.right (by assumption))))))))))) | (with_reducible exact And.left (And.right (And.right (And.right (And.right (And.right (And.right (And.right (And.right (And.right (And.right (by assumption)))))))))))) | (with_reducible exact And.left (And.right (And.right (And.right (And.right (And.right (And.right (And.right (And.right (And.right (And.right (And.right (by assumption))))))))))))) | (with_reducible exact And.left (And.right (And.right (And.right (And.right (And.right (And.right (And.right (And.right (And.right (And.right (And.right (And.right (by assumption)))))))))))))) | (with_reducible exact And.left (And.right (And.right (And.right (And.right (And.right (And.right (And.right (And.right (And.right (And.right (And.right (And.right (And.right (by assumption))))))))))))))) | (with_reducible exact And.left (And.right (And.right (And.right (And.right (And.right (And.right (And.right (And.right (And.right (And.right (And.right (And.right (And.right (And.right (by assumption)))))))))))))))) | (with_reducible exact And.left (And.right (And.right (And.right (And.right (And.right (And.right (And.right (And.right (And.right (And.right (And.right (And.right (And.right (And.right (And.right (by assumption))))))))))))))))) | (with_reducible exact And.left (And.right (And.right (And.right (And.right (And.right (And.right (And.right (And.right (And.right (And.right (And.right (And.right (And.right (And.right (And.right (And.right (by assumption)))))))))))))))))) | (with_reducible exact And.left (And.right (And.right (And.right (And.right (And.right (And.right (And.right (And.right (And.right (And.right (And.right (And.right (And.right (And.right (And.right (And.right (And.right (by assumption))))))))))))))))))) | (with_reducible exact And.left (And.right (And.right (And.right (And.right (And.right (And.right (And.right (And.right (And.right (And.right (And.right (And.right (And.right (And.right (And.right (And.right (And.right (And.right (by assumption)))))))))))))))))))) | (with_reducible exact And.left (And.right (And.right (And.right (And.right (And.right (And.right (And.right (And.right (And.right (And.right (And.right (And.right (And.right (And.right (And.right (And.right (And.right (And.right (And.right (by assumption))))))))))))))))))))) | (with_reducible exact And.left (And.right (And.right (And.right (And.right (And.right (And.right (And.right (And.right (And.right (And.right (And.right (And.right (And.right (And.right (And.right (And.right (And.right (And.right (And.right (And.right (by assumption)))))))))))))))))))))) | (with_reducible exact And.left (And.right (And.right (And.right (And.right (And.right (And.right (And.right (And.right (And.right (And.right (And.right (And.right (And.right (And.right (And.right (And.right (And.right (And.right (And.right (And.right (And.right (by assumption))))))))))))))))))))))) | (with_reducible exact And.left (And.right (And.right (And.right (And.right (And.right (And.right (And.right (And.right (And.right (And.right (And.right (And.right (And.right (And.right (And.right (And.right (And.right (And.right (And.right (And.right (And.right (And.right (by assumption)))))))))))))))))))))))) | (with_reducible exact And.left (And.right (And.right (And.right (And.right (And.right (And.right (And.right (And.right (And.right (And.right (And.right (And.right (And.right (And.right (And.right (And.right (And.right (And.right (And.right (And.right (And.right (And.right (And.right (by assumption))))))))))))))))))))))))) | (with_reducible exact And.right (by assumption)) | (with_reducible exact And.right (And.right (by assumption))) | (with_reducible exact And.right (And.right (And.right (by assumption)))) | (with_reducible exact And.right (And.right (And.right (And.right (by assumption))))) | (with_reducible exact And.right (And.right (And.right (And.right (And.right (by assumption)))))) | (with_reducible exact And.right (And.right (And.right (And.right (And.right (And.right (by assumption))))))) | (with_reducible exact And.right (And.right (And.right (And.right (And.right (And.right (And.right (by assumption)))))))) | (with_reducible exact And.right (And.right (And.right (And.right (And.right (And.right (And.right (And.right (by assumption))))))))) | (with_reducible exact And.right (And.right (And.right (And.right (And.right (And.right (And.right (And.right (And.right (by assumption)))))))))) | (with_reducible exact And.right (And.right (And.right (And.right (And.right (And.right (And.right (And.right (And.right (And.right (by assumption))))))))))) | (with_reducible exact And.right (And.right (And.right (And.right (And.right (And.right (And.right (And.right (And.right (And.right (And.right (by assumption)))))))))))) | (with_reducible exact And.right (And.right (And.right (And.right (And.right (And.right (And.right (And.right (And.right (And.right (And.right (And.right (by assumption))))))))))))) | (with_reducible exact And.right (And.right (And.right (And.right (And.right (And.right (And.right (And.right (And.right (And.right (And.right (And.right (And.right (by assumption)))))))))))))) | (with_reducible exact And.right (And.right (And.right (And.right (And.right (And.right (And.right (And.right (And.right (And.right (And.right (And.right (And.right (And.right (by assumption))))))))))))))) | (with_reducible exact And.right (And.right (And.right (And.right (And.right (And.right (And.right (And.right (And.right (And.right (And.right (And.right (And.right (And.right (And.right (by assumption)))))))))))))))) | (with_reducible exact And.right (And.right (And.right (And.right (And.right (And.right (And.right (And.right (And.right (And.right (And.right (And.right (And.right (And.right (And.right (And.right (by assumption))))))))))))))))) | (with_reducible exact And.right (And.right (And.right (And.right (And.right (And.right (And.right (And.right (And.right (And.right (And.right (And.right (And.right (And.right (And.right (And.right (And.right (by assumption)))))))))))))))))) | (with_reducible exact And.right (And.right (And.right (And.right (And.right (And.right (And.right (And.right (And.right (And.right (And.right (And.right (And.right (And.right (And.right (And.right (And.right (And.right (by assumption))))))))))))))))))) | (with_reducible exact And.right (And.right (And.right (And.right (And.right (And.right (And.right (And.right (And.right (And.right (And.right (And.right (And.right (And.right (And.right (And.right (And.right (And.right (And.right (by assumption)))))))))))))))))))) | (with_reducible exact And.right (And.right (And.right (And.right (And.right (And.right (And.right (And.right (And.right (And.right (And.right (And.right (And.right (And.right (And.right (And.right (And.right (And.right (And.right (And.right (by assumption))))))))))))))))))))) | (with_reducible exact And.right (And.right (And.right (And.right (And.right (And.right (And.right (And.right (And.right (And.right (And.right (And.right (And.right (And.right (And.right (And.right (And.right (And.right (And.right (And.right (And.right (by assumption)))))))))))))))))))))) | (with_reducible exact And.right (And.right (And.right (And.right (And.right (And.right (And.right (And.right (And.right (And.right (And.right (And.right (And.right (And.right (And.right (And.right (And.right (And.right (And.right (And.right (And.right (And.right (by assumption))))))))))))))))))))))) | (with_reducible exact And.right (And.right (And.right (And.right (And.right (And.right (And.right (And.right (And.right (And.right (And.right (And.right (And.right (And.right (And.right (And.right (And.right (And.right (And.right (And.right (And.right (And.right (And.right (by assumption)))))))))))))))))))))))))
  k_with "TL ne0" => (refine neN ?_; (try dsimp only); first | (with_reducible assumption) | (refine Ne.symm ?_; with_reducible assumption) | (with_reducible exact And.left (by assumption)) | (with_reducible exact And.left (And.right (by assumption))) | (with_reducible exact And.left (And.right (And.right (by assumption)))) | (with_reducible exact And.left (And.right (And.right (And.right (by assumption))))) | (with_reducible exact And.left (And.right (And.right (And.right (And.right (by assumption)))))) | (with_reducible exact And.left (And.right (And.right (And.right (And.right (And.right (by assumption))))))) | (with_reducible exact Ne.symm <| And.left (by assumption)) | (with_reducible exact Ne.symm <| And.left (And.right (by assumption))) | (with_reducible exact Ne.symm <| And.left (And.right (And.right (by assumption)))) | (with_reducible exact Ne.symm <| And.left (And.right (And.right (And.right (by assumption))))) | (with_reducible exact Ne.symm <| And.left (And.right (And.right (And.right (And.right (by assumption)))))) | (with_reducible exact Ne.symm <| And.left (And.right (And.right (And.right (And.right (And.right (by assumption))))))) | (refine ne_gt ?_; k_extra "TL lt0") | (refine ne_lt ?_; k_extra "TL lt0"))
  k_with "TL le" => (first | (with_reducible assumption) | (with_reducible exact Nat.le_refl _) | (with_reducible exact Nat.succ_le_of_lt (by assumption)) | (with_reducible exact Nat.le_of_lt (by assumption)) | (with_reducible refine le_ss ?_; k_extra "TL le") | ((fail_if_success (with_reducible refine le_ss ?_)); with_reducible refine le_s ?_; k_extra "TL le") | ((fail_if_success (with_reducible refine le_s ?_)); refine le_t ?_ (by with_reducible assumption); k_extra "TL le") | ((fail_if_success (with_reducible refine le_s ?_)); refine le_t ?_ (Nat.le_of_lt (by with_reducible assumption)); k_extra "TL le"))
  k_with "TL mem" => (assumption)
  k_with "TL@ call builtin:len cons nil" => ((k_dflt (refine' len_tupI ?N ?hm ?hi ?hf ?_; (case N => k_asm); (case hm => k_mem); (case hi => assumption); (case hf => assumption))))
  k_with "TL@ pyIter ref" => (k_extra "TL iter")
  k_with "TL@ TurnEnd next" => (k_extra "TL next")
  k_with "TL@ subscriptTail Name Name ref int" => (k_extra "TL item")
  intro dp un gd cn cs a ccd cl outer A₀ base h₀ L m s Q E B F X N T hk hdp hu hret
  obtain ⟨d, N₁, T₁, vs, z, tz, sb, k1, k2, k3, k4, k5, tn, tt, tb, h1', h2', h3', h4', h5'⟩ := hx
  refine wpAny_call ?_
  k_dflt cell_enter
  k_with "TL iter" => (k_dflt (refine' loop_range (ilJ ?base ?m0 v.k ts) ?hh ?hr ?hsm ?F ?N ?hj ?turn ?done; (case hh => exact rfl); (case hr => assumption); (case hsm => exact small_one (by omega) (by omega) (by omega) (by omega)); (case F => k_asm); (case N => k_asm); (case hj => refine' ⟨rfl, ⟨_, il0 rfl⟩, fun _ _ _ => rfl⟩)); (case' turn => (rintro i tk' m₁ nw h tk I oI hi ⟨rfl, ⟨t2, e1⟩, e2⟩ hn F' N' _ rfl; rw [il_map e1 e2] at F'; (have hq := fdiv_small2 h1 hi hl))); (case' done => (rintro m₁ nw h tk ⟨rfl, ⟨t2, e1⟩, e2⟩ F' N'; rw [il_mapD e1 e2] at F')))
  k_with "TL item" => (k_dflt (refine' item_tupI ?N ?hm ?hi ?h0 ?h1 hl ?_ ?hs; (case N => k_asm); (case hm => exact h4'); (case hi => assumption); (case h0 => omega); (case h1 => omega); (case hs => with_unfolding_all rfl)); intro t3)
  k_with "TL next" => (k_dflt (refine turn_next _ (by k_asm) (by k_asm) (fun _ h => h) hn ⟨rfl, ⟨_, by rw [ilAcc_succ]; rfl⟩, fun y e1 e2 => by simp only [e1, e2, if_false]⟩))
  w_strict (k_steps; all_goals first
    | exact cb_retI hret rfl (by assumption) (by assumption))
end TL
end

section
open PySem PySem.W PySem.Spec PySem.Calls PyProof.Rows
set_option maxRecDepth 100000
set_option maxHeartbeats 8000000
namespace TL

def maxI (a b : Int) : Int := if b > a then b else a
def runOf (v : WsV) : Int := maxI ((v.k.length : Int) - 1) v.b
def rowD (r : Int × Int × Int) : Dat := .tuple [.int r.1, .int r.2.1, .int r.2.2]
/-- the witness rows for the sizes 1 .. i -/
def neRows (v u : WsV) (i : Nat) : List (Int × Int × Int) :=
  ((List.range i).map fun (j : Nat) => (1 + (j : Int), indentOf v (1 + (j : Int)), indentOf u (1 + (j : Int)))).filter fun r => r.2.1 != r.2.2
def neOf (v u : WsV) : List (Int × Int × Int) := neRows v u (maxI (runOf v) (runOf u) + 1).toNat

theorem neRows_yes {v u : WsV} {i : Nat} (h : indentOf v (1 + (i : Int)) ≠ indentOf u (1 + (i : Int))) : neRows v u (i + 1) = neRows v u i ++ [(1 + (i : Int), indentOf v (1 + (i : Int)), indentOf u (1 + (i : Int)))] := by
  unfold neRows
  rw [List.range_succ, List.map_append, List.filter_append]
  simp [h]
theorem neRows_no {v u : WsV} {i : Nat} (h : indentOf v (1 + (i : Int)) = indentOf u (1 + (i : Int))) : neRows v u (i + 1) = neRows v u i := by
  unfold neRows
  rw [List.range_succ, List.map_append, List.filter_append]
  simp [h]
theorem runOf_lo (v u : WsV) : -1 ≤ maxI (runOf v) (runOf u) := by
  unfold maxI runOf maxI
  repeat' split
  all_goals omega
def neJ (base : List (Addr × Obj)) (m₀ : Str → Option Value) (A : Addr) (v u : WsV) (i : Nat) (m₁ : Str → Option Value) (nw : List (Addr × Obj)) : Prop :=
  ∃ (ws : List Value) (j : Nat) (rest : List (Addr × Obj)), nw = (A, W.listOf ws.toArray j) :: rest ∧ (∀ p ∈ base, p ∈ rest) ∧ DatAll rest ws ((neRows v u i).map rowD) ∧ ws.length ≤ i ∧ LCg.Off1 A rest ∧ ∀ y, y ≠ Str.ofString "ts" → m₁ y = m₀ y
theorem ts_map {m₀ m₁ : Str → Option Value} {V : Option Value} (h5 : ∀ y, y ≠ Str.ofString "ts" → m₁ y = m₀ y) :
    (fun y => if y = Str.ofString "ts" then V else m₁ y) = fun y => if y = Str.ofString "ts" then V else m₀ y := by
  funext y
  by_cases e0 : y = Str.ofString "ts"
  · rw [if_pos e0, if_pos e0]
  rw [if_neg e0, if_neg e0]
  exact h5 y e0
theorem ts_mapD {m₀ m₁ : Str → Option Value} (h5 : ∀ y, y ≠ Str.ofString "ts" → m₁ y = m₀ y) :
    m₁ = fun y => if y = Str.ofString "ts" then m₁ (Str.ofString "ts") else m₀ y := by
  funext y
  by_cases e0 : y = Str.ofString "ts"
  · rw [if_pos e0, e0]
  rw [if_neg e0]
  exact h5 y e0
theorem ne_no {h₀ h' : Heap} {L I A : Addr} {oI : Obj} {m₀ m' : Str → Option Value} {s₁ : Shared} {Q : Flow → Shared → Prop} {tk' : Nat} {base rest all : List (Addr × Obj)} {v u : WsV} {i j : Nat} {ws : List Value}
    (F : Fr h₀ L h' m') (N : News h₀ L h' all) (hs : ∀ p ∈ (I, oI) :: (A, W.listOf ws.toArray j) :: rest, p ∈ all) (hn : ∀ p ∈ (A, W.listOf ws.toArray j) :: rest, p.1 ≠ I) (hb : ∀ p ∈ base, p ∈ rest) (hD : DatAll rest ws ((neRows v u i).map rowD)) (hw : ws.length ≤ i) (ho : LCg.Off1 A rest)
    (r5 : ∀ y, y ≠ Str.ofString "ts" → m' y = m₀ y) (he : indentOf v (1 + (i : Int)) = indentOf u (1 + (i : Int))) : TurnEnd h₀ L I oI (neJ base m₀ A v u (i + 1)) s₁ Q .next { s₁ with heap := h', toks := tk' } :=
  turn_next _ F N hs hn ⟨ws, j, rest, rfl, hb, by rw [neRows_no he]; exact hD, by omega, ho, r5⟩
theorem ne_yes {h₀ h' : Heap} {L I A D : Addr} {oI : Obj} {m₀ m' : Str → Option Value} {s₁ : Shared} {Q : Flow → Shared → Prop} {tk' : Nat} {base rest all : List (Addr × Obj)} {v u : WsV} {i j j' : Nat} {ws : List Value} {ta tb tc : Tok}
    (F : Fr h₀ L h' m') (N : News h₀ L h' all) (hA : (A, W.listOf (ws.toArray.push (.ref D)) j') ∈ all) (ht : (D, tupO #[.int (1 + (i : Int)) ta, .int (indentOf v (1 + (i : Int))) tb, .int (indentOf u (1 + (i : Int))) tc]) ∈ all) (hI : (I, oI) ∈ all) (hs : ∀ p ∈ rest, p ∈ all)
    (hn : ∀ p ∈ (A, W.listOf ws.toArray j) :: rest, p.1 ≠ I) (hDI : @Ne Nat D I) (hDA : @Ne Nat D A) (hb : ∀ p ∈ base, p ∈ rest) (hD : DatAll rest ws ((neRows v u i).map rowD)) (hw : ws.length ≤ i) (ho : LCg.Off1 A rest)
    (r5 : ∀ y, y ≠ Str.ofString "ts" → m' y = m₀ y) (he : indentOf v (1 + (i : Int)) ≠ indentOf u (1 + (i : Int))) : TurnEnd h₀ L I oI (neJ base m₀ A v u (i + 1)) s₁ Q .next { s₁ with heap := h', toks := tk' } := by
  have e : (ws ++ [Value.ref D]).toArray = ws.toArray.push (.ref D) := by simp
  refine turn_next ((A, W.listOf (ws ++ [Value.ref D]).toArray j') :: (D, tupO #[.int (1 + (i : Int)) ta, .int (indentOf v (1 + (i : Int))) tb, .int (indentOf u (1 + (i : Int))) tc]) :: rest) F N ?_ ?_ ⟨_, _, _, rfl, fun p hp => .tail _ (hb p hp), ?_, ?_, ⟨hDA, ho⟩, r5⟩
  · intro p hp
    rcases List.mem_cons.mp hp with rfl | hp
    · exact hI
    rcases List.mem_cons.mp hp with rfl | hp
    · rw [e]; exact hA
    rcases List.mem_cons.mp hp with rfl | hp
    · exact ht
    exact hs p hp
  · intro p hp
    rcases List.mem_cons.mp hp with rfl | hp
    · exact hn (A, W.listOf ws.toArray j) (.head _)
    rcases List.mem_cons.mp hp with rfl | hp
    · exact hDI
    exact hn p (.tail _ hp)
  · rw [neRows_yes he, List.map_append]
    refine DatAll.append (DatAll.mono (fun p hp => .tail _ hp) hD) (.cons ?_ .nil)
    exact .tuple (vs := [.int _ ta, .int _ tb, .int _ tc]) (.head _) (.cons (.int _ _) (.cons (.int _ _) (.cons (.int _ _) .nil)))
  · rw [List.length_append, List.length_singleton]; omega

theorem append_my {prog : Program} {w : World} {A : Around} {E : Value → Shared → Prop} {s : Shared} {h₀ : Heap} {L D : Addr} {m : Str → Option Value} {news news' : List (Addr × Obj)} {ws : List Value} {n i : Nat} {x : Value} {Q : Value → Shared → Prop}
    (F : Fr h₀ L s.heap m) (N : News h₀ L s.heap news) (U : Upd D (W.listOf ws.toArray n) (W.listOf (ws.toArray.push x) (n + 1)) news news') (hw : ws.length ≤ i) (hi : i < 2 ^ 12)
    (h : ∀ h', Fr h₀ L h' m → News h₀ L h' news' → Q .none { s with heap := h' }) : wpAny (model prog w) A (call (.builtin "list.append") [.ref D, x]) Q E s := by
  obtain ⟨pre, post, rfl, rfl, a, c⟩ := U.split
  have z := N (D, W.listOf ws.toArray n) (List.mem_append.mpr (.inr (.head _)))

  refine call_meets PySem.F.slot_list_append ⟨_, z.1, rfl⟩ PySem.F.entry_list_append (PySem.F.args_list_append_2 _ _) (PySem.AutoListH.list_append_list_val_0 D ws.toArray n x (by rw [List.size_toArray, sizeLine_eq]; omega)) ⟨z.1, (h _ (F.change (Heap.SameBut.update ..) z.2.1 z.2.2) (kl_turn _ N a c ?_ ?_))⟩
  · rfl
  · simp
abbrev RetR (news : List (Addr × Obj)) (rows : List (Int × Int × Int)) : Heap → Addr → (Str → Option Value) → Shared → (Value → Shared → Prop) → Prop :=
  fun h₀ L m s Q => ∀ (A : Addr) (ws : List Value) (j : Nat) (rest : List (Addr × Obj)) (h' : Heap) (tk' : Nat), Fr h₀ L h' m → News h₀ L h' ((A, W.listOf ws.toArray j) :: rest) → (∀ p ∈ news, p ∈ rest) → DatAll rest ws (rows.map rowD) → LCg.Off1 A rest → Q (.ref A) { s with heap := h', toks := tk' }

theorem ne_end (v u : WsV) : (maxI (runOf v) (runOf u) + 1 + 1 - 1).toNat = (maxI (runOf v) (runOf u) + 1).toNat := by congr 1; omega
theorem wit_con (w : World) (mean : ExcName → Option Value) (mg mb : Str → Option Value) (news : List (Addr × Obj)) (x y : Addr) (v u : WsV) (hx : IsWs w.params news x v) (hy : IsWs w.params news y u) (hl : v.k.length < 2 ^ 12) (hl' : u.k.length < 2 ^ 12)
    (hn3 : maxI (runOf v) (runOf u) ≤ 3) :
   Con w mean mg mb 66 12 news [.ref x, .ref y] (RetR news (neOf v u)) := by
  unfold Con
  k_fill
  w_top on
  w_on
  k_with_none
  k_with "TL lt0" => (first | (with_reducible assumption) | (refine lt_t ?_ (by with_reducible assumption); k_extra "TL lt0") | (with_reducible exact And.left (by assumption)) | (with_reducible exact And.left (And.right (by assumption))) | (with_reducible exact And.left (And.right (And.right (by assumption)))) | (with_reducible exact And.left (And.right (And.right (And.right (by assumption))))) | (with_reducible exact And.left (And.right (And.right (And.right (And.right (by assumption)))))) | (with_reducible exact And.left (And.right (And.right (And.right (And.right (And.right (by assumption))))))) | (with_reducible exact And.left (And.right (And.right (And.right (And.right (And.right (And.right (by assumption)))))))) | (with_reducible exact And.left (And.right (And.right (And.right (And.right (And.right (And.right (And.right (by assumption))))))))) | (with_reducible exact And.left (And.right (And.right (And.right (And.right (And.right (And.right (And.right (And.right (by assumption)))))))))) | (with_reducible exact And.left (And.right (And.right (And.right (And.right (And.right (And.right (And.right (And.right (And.right (by assumption))))))))))) | (with_reducible exact And.left (And.right (And.right (And.right (And.right (And.right (And.right (And.right (And.right (And.right (And.right (by assumption)))))))))))) | (with_reducible exact And.left (And.right (And.right (And.right (And.right (And.right (And.right (And.right (And.right (And.right (And.right (And.right (by assumption))))))))))))) | (with_reducible exact And.left (And.right (And.right (And.right (And.right (And.right (And.right (And.right (And.right (And.right (And.right (And.right (And.right (by assumption)))))))))))))) | (with_reducible exact And.left (And.right (And.right (And.right (And.right (And.right (And.right (And.right (And.right (And.right (And.right (And.right (And.right (And.right (by assumption))))))))))))))) | (with_reducible exact And.left (And.right (And.right (And.right (And.right (And.right (And.right (And.right (And.right (And.right (And.right (And.right (And.right (And.right (And.right (by assumption)))))))))))))))) | (with_reducible exact And.left (And.right (And.right (And.right (And.right (And.right (And.right (And.right (And.right (And.right (And.right (And.right (And.right (And.right (And.right (And.right (by assumption))))))))))))))))) | (with_reducible exact And.left (And.right (And.right (And.right (And.right (And.right (And.right (And.right (And.right (And.right (And.right (And.right (And.right (And.right (And.right (And.right (And.right (by assumption)))))))))))))))))) | (with_reducible exact And.left (And.right (And.right (And.right (And.right (And.right (And.right (And.right (And.right (And.right (And.right (And.right (And.right (And.right (And.right (And.right (And.right (And.right (by assumption))))))))))))))))))) | (with_reducible exact And.left (And.right (And.right (And.right (And.right (And.right (And.right (And.right (And.right (And.right (And.right (And.right (And.right (And.right (And.right (And.right (And.right (And.right (And.right (by assumption)))))))))))))))))))) | (with_reducible exact And.left (And.right (And.right (And.right (And.right (And.right (And.right (And.right (And.right (And.right (And.right (And.right (And.right (And.right (And.right (And.right (And.right (And.right (And.right (And.right (by assumption))))))))))))))))))))) | (with_reducible exact And.left (And.right (And.right (And.right (And.right (And.right (And.right (And.right (And.right (And.right (And.right (And.right (And.right (And.right (And.right (And.right (And.right (And.right (And.right (And.right (And.right (by assumption)))))))))))))))))))))) | (with_reducible exact And.left (And.right (And.right (And.right (And.right (And.right (And.right (And.right (And.right (And.right (And.right (And.right (And.right (And.right (And.right (And.right (And.right (And.right (And.right (And.right (And.right (And.right (by assumption))))))))))))))))))))))) | (with_reducible exact And.left (And.right (And.right (And.right (And.right (And.right (And.right (And.right (And.right (And.right (And.right (And.right (And.right (And.right (And.right (And.right (And.right (And.right (And.right (And.right (And.right (And.right (And.right (by assumption)))))))))))))))))))))))) | (with_reducible exact And.left (And.right (And.right (And.right (And.right (And.right (And.right (And.right (And.right (And.right (And.right (And.right (And.right (And.right (And.right (And.right (And.right (And.right (And.right (And.right (And.right (And.right (And.right (And.right (by assumption))))))))))))))))))))))))) | (with_reducible exact And.right (by assumption)) | (with_reducible exact And.right (And.right (by assumption))) | (with_reducible exact And.right (And.right (And.right (by assumption)))) | (with_reducible exact And.right (And.right (And.right (And.right (by assumption))))) | (with_reducible exact And.right (And.right (And.right (And.right (And.right (by assumption)))))) | (with_reducible exact And.right (And.right (And.right (And.right (And.right (And.right (by assumption))))))) | (with_reducible exact And.right (And.right (And.right (And.right (And.right (And.right (And.right (by assumption)))))))) | (with_reducible exact And.right (And.right (And.right (And.right (And.right (And.right (And.right (And.right (by assumption))))))))) | (with_reducible exact And.right (And.right (And.right (And.right (And.right (And.right (And.right (And.right (And.right (by assumption)))))))))) | (with_reducible exact And.right (And.right (And.right (And.right (And.right (And.right (And.right (And.right (And.right (And.right (by assumption))))))))))) | (with_reducible exact And.right (And.right (And.right (And.right (And.right (And.right (And.right (And.right (And.right (And.right (And.right (by assumption)))))))))))) | (with_reducible exact And.right (And.right (And.right (And.right (And.right (And.right (And.right (And.right (And.right (And.right (And.right (And.right (by assumption))))))))))))) | (with_reducible exact And.right (And.right (And.right (And.right (And.right (And.right (And.right (And.right (And.right (And.right (And.right (And.right (And.right (by assumption)))))))))))))) | (with_reducible exact And.right (And.right (And.right (And.right (And.right (And.right (And.right (And.right (And.right (And.right (And.right (And.right (And.right (And.right (by assumption))))))))))))))) | (with_reducible exact And.right (And.right (And.right (And.right (And.right (And.right (And.right (And.right (And.right (And.right (And.right (And.right (And.right (And.right (And.right (by assumption)))))))))))))))) | (with_reducible exact And.right (And.right (And.right (And.right (And.right (And.right (And.right (And.right (And.right (And.right (And.right (And.right (And.right (And.right (And.right (And.right (by assumption))))))))))))))))) | (with_reducible exact And.right (And.right (And.right (And.right (And.right (And.right (And.right (And.right (And.right (And.right (And.right (And.right (And.right (And.right (And.right (And.right (And.right (by assumption)))))))))))))))))) | (with_reducible exact And.right (And.right (And.right (And.right (And.right (And.right (And.right (And.right (And.right (And.right (And.right (And.right (And.right (And.right (And.right (And.right (And.right (And.right (by assumption))))))))))))))))))) | (with_reducible exact And.right (And.right (And.right (And.right (And.right (And.right (And.right (And.right (And.right (And.right (And.right (And.right (And.right (And.right (And.right (And.right (And.right (And.right (And.right (by assumption)))))))))))))))))))) | (with_reducible exact And.right (And.right (And.right (And.right (And.right (And.right (And.right (And.right (And.right (And.right (And.right (And.right (And.right (And.right (And.right (And.right (And.right (And.right (And.right (And.right (by assumption))))))))))))))))))))) | (with_reducible exact And.right (And.right (And.right (And.right (And.right (And.right (And.right (And.right (And.right (And.right (And.right (And.right (And.right (And.right (And.right (And.right (And.right (And.right (And.right (And.right (And.right (by assumption)))))))))))))))))))))) | (with_reducible exact And.right (And.right (And.right (And.right (And.right (And.right (And.right (And.right (And.right (And.right (And.right (And.right (And.right (And.right (And.right (And.right (And.right (And.right (And.right (And.right (And.right (And.right (by assumption))))))))))))))))))))))) | (with_reducible exact And.right (And.right (And.right (And.right (And.right (And.right (And.right (And.right (And.right (And.right (And.right (And.right (And.right (And.right (And.right (And.right (And.right (And.right (And.right (And.right (And.right (And.right (And.right (by assumption)))))))))))))))))))))))))
  k_with "TL ne0" => (refine neN ?_; (try dsimp only); first | (with_reducible assumption) | (refine Ne.symm ?_; with_reducible assumption) | (with_reducible exact And.left (by assumption)) | (with_reducible exact And.left (And.right (by assumption))) | (with_reducible exact And.left (And.right (And.right (by assumption)))) | (with_reducible exact And.left (And.right (And.right (And.right (by assumption))))) | (with_reducible exact And.left (And.right (And.right (And.right (And.right (by assumption)))))) | (with_reducible exact And.left (And.right (And.right (And.right (And.right (And.right (by assumption))))))) | (with_reducible exact Ne.symm <| And.left (by assumption)) | (with_reducible exact Ne.symm <| And.left (And.right (by assumption))) | (with_reducible exact Ne.symm <| And.left (And.right (And.right (by assumption)))) | (with_reducible exact Ne.symm <| And.left (And.right (And.right (And.right (by assumption))))) | (with_reducible exact Ne.symm <| And.left (And.right (And.right (And.right (And.right (by assumption)))))) | (with_reducible exact Ne.symm <| And.left (And.right (And.right (And.right (And.right (And.right (by assumption))))))) | (refine ne_gt ?_; k_extra "TL lt0") | (refine ne_lt ?_; k_extra "TL lt0"))
  k_with "TL le" => (first | (with_reducible assumption) | (with_reducible exact Nat.le_refl _) | (with_reducible exact Nat.succ_le_of_lt (by assumption)) | (with_reducible exact Nat.le_of_lt (by assumption)) | (with_reducible refine le_ss ?_; k_extra "TL le") | ((fail_if_success (with_reducible refine le_ss ?_)); with_reducible refine le_s ?_; k_extra "TL le") | ((fail_if_success (with_reducible refine le_s ?_)); refine le_t ?_ (by with_reducible assumption); k_extra "TL le") | ((fail_if_success (with_reducible refine le_s ?_)); refine le_t ?_ (Nat.le_of_lt (by with_reducible assumption)); k_extra "TL le"))
  k_with "TL mem" => (assumption)
  k_with "TL@ pyIter ref" => (k_extra "TL iter")
  k_with "TL@ call builtin:list.append cons nil" => (k_extra "TL app")
  k_with "TL all" => (first | exact ne_of_all_lt (by assumption) | exact off1_all (by ((first | assumption | exact And.right (by assumption) | exact And.right (And.right (by assumption)) | exact And.right (And.right (And.right (by assumption)))))) | exact ne_of_allLt (by ((first | assumption | exact And.right (by assumption) | exact And.right (And.right (by assumption)) | exact And.right (And.right (And.right (by assumption)))))))
  k_with "TL@ TurnEnd next" => (k_extra "TL next")
  k_with "TL@ call ref nil" => (k_extra "TL call")
  k_with "TL@ call ref cons nil" => (k_extra "TL call")
  intro dp un gd cn cs a ccd cl outer A₀ base h₀ L m s Q E B F X N T hk hdp hu hret
  obtain ⟨d, N₁, T₁, vs, z, tz, sb, k1, k2, k3, k4, k5, tn, tt, tb, h1', h2', h3', h4', h5'⟩ := id hx
  obtain ⟨d', N₂, T₂, vs', z', tz', sb', k1', k2', k3', k4', k5', tn', tt', tb', g1', g2', g3', g4', g5'⟩ := id hy
  have hlo := runOf_lo v u
  refine wpAny_call ?_
  k_dflt cell_enter
  k_with "TL call" => (k_dflt ((try dsimp only [List.nil_append, List.cons_append, List.append_nil]); refine' Con.use (run_con _ _ _ _ _ _ _ (hx.mono (by kcf_all)) hl) ?k1 ?k2 ?k3 ?k4 ?k5 ?kK ?kd ?ku ?_; (case k1 => k_asm); (case k2 => k_asm); (case k3 => k_asm); (case k4 => k_asm); (case k5 => k_asm); (case kK => first | exact rfl | assumption); (case kd => ktr_room); (case ku => ktr_units); k_whole); intro t3 h3 tk3 F3 N3; (try dsimp only); (try k_sweep))
  k_with "TL call" => (k_dflt ((try dsimp only [List.nil_append, List.cons_append, List.append_nil]); refine' Con.use (run_con _ _ _ _ _ _ _ (hy.mono (by kcf_all)) hl') ?k1 ?k2 ?k3 ?k4 ?k5 ?kK ?kd ?ku ?_; (case k1 => k_asm); (case k2 => k_asm); (case k3 => k_asm); (case k4 => k_asm); (case k5 => k_asm); (case kK => first | exact rfl | assumption); (case kd => ktr_room); (case ku => ktr_units); k_whole); intro t3 h3 tk3 F3 N3; (try dsimp only); (try k_sweep))
  k_with "TL call" => (k_dflt ((try dsimp only [List.nil_append, List.cons_append, List.append_nil]); refine' Con.use (indent_con _ _ _ _ _ _ _ _ _ ?ihx hl ?ib1 ?ib2) ?k1 ?k2 ?k3 ?k4 ?k5 ?kK ?kd ?ku ?_; (case k1 => k_asm); (case k2 => k_asm); (case k3 => k_asm); (case k4 => k_asm); (case ihx => exact hx2.mono (by kcf_all)); (case ib1 => omega); (case ib2 => omega); (case k5 => k_asm); (case kK => first | exact rfl | assumption); (case kd => ktr_room); (case ku => ktr_units); k_whole); intro t3 h3 tk3 F3 N3; (try dsimp only); (try k_sweep))
  k_with "TL call" => (k_dflt ((try dsimp only [List.nil_append, List.cons_append, List.append_nil]); refine' Con.use (indent_con _ _ _ _ _ _ _ _ _ ?ihx hl' ?ib1 ?ib2) ?k1 ?k2 ?k3 ?k4 ?k5 ?kK ?kd ?ku ?_; (case k1 => k_asm); (case k2 => k_asm); (case k3 => k_asm); (case k4 => k_asm); (case ihx => exact hy2.mono (by kcf_all)); (case ib1 => omega); (case ib2 => omega); (case k5 => k_asm); (case kK => first | exact rfl | assumption); (case kd => ktr_room); (case ku => ktr_units); k_whole); intro t3 h3 tk3 F3 N3; (try dsimp only); (try k_sweep))
  k_with "TL iter" => (k_dflt (refine' loop_range (a := 1) (b := maxI (runOf v) (runOf u) + 1 + 1) (neJ ?neBase ?neM0 ?neA v u) ?hh ?hr ?hsm ?F ?N ?hj ?turn ?done; (case hh => exact rfl); (case hr => assumption); (case hsm => exact small_one (by omega) (by omega) (by omega) (by omega)); (case F => k_asm); (case N => k_asm); (case hj => (refine' ⟨[], _, _, rfl, fun _ h => h, .nil, Nat.le_refl _, ?o, fun _ _ => rfl⟩; (case o => exact off1_of_lt (allLt_of (by assumption)))))); (case' turn => (rintro i tk' m₁ nw h tk I oI hi ⟨ws, j, rest, rfl, hb, hD, hwl, hoff, e2⟩ hn F' N' _ rfl; rw [ts_map e2] at F'; (have hx2 := hx.mono hb); (have hy2 := hy.mono hb); (have hAI : @Ne Nat _ I := hn _ (.head _)); (have r1 := hb _ h1'); (have r2 := hb _ h2'); (have r3 := hb _ g1'); (have r4 := hb _ g2'); (have hi3 : i < 4 := by omega))); (case' done => (rintro m₁ nw h tk ⟨ws, j, rest, rfl, hb, hD, hwl, hoff, e2⟩ F' N'; rw [ts_mapD e2] at F')))
  k_with "TL app" => (k_dflt (refine' append_my ?F ?N ?U hwl ?hi12 ?_; (case F => k_asm); (case N => k_asm); (case U => k_upd); (case hi12 => omega); intro h' F' N'))
  k_with "TL next" => (k_dflt (first | exact ne_no (by assumption) (by assumption) (fun _ h => h) hn hb hD hwl hoff (by intro y hy; simp only [if_neg hy]) (by assumption) | (refine' ne_yes ?F ?N ?hA ?ht ?hI ?hs hn ?hDI ?hDA hb hD hwl hoff ?r5 ?he; (case F => k_asm); (case N => k_asm); (case hA => k_mem); (case ht => k_mem); (case hI => k_mem); (case hs => kcf_all); (case hDI => omega); (case hDA => omega); (case r5 => (intro y hy; simp only [if_neg hy])); (case he => assumption))))
  w_strict (k_steps; all_goals first
    | exact hret _ _ _ _ _ _ (by assumption) (by assumption) hb (by rw [ne_end] at hD; exact hD) hoff)
end TL
end

section
open PySem PySem.W PySem.Spec PySem.Calls PyProof.Rows
set_option maxRecDepth 100000
set_option maxHeartbeats 8000000
namespace TL
/-- the signs of the three kinds -/
def signs (k : Int) : Str × Str × Str := if k = 0 then (Str.ofString "<>", Str.ofString "&\r\n\t", Str.ofString "\"") else if k = 1 then (Str.ofString ">", Str.ofString "&", Str.ofString "\"") else (Str.ofString "<", Str.ofString "&\t\n\r", Str.ofString "\"")
abbrev sgO (r : Str × Str × Str) (t0 t1 t2 : Tok) : Obj := W.listOf #[.str r.1 t0, .str r.2.1 t1, .str r.2.2 t2] 0
abbrev RetSg (news : List (Addr × Obj)) (r : Str × Str × Str) : Heap → Addr → (Str → Option Value) → Shared → (Value → Shared → Prop) → Prop :=
  fun h₀ L m s Q => ∀ (A : Addr) (t0 t1 t2 : Tok) (h' : Heap) (tk' : Nat), Fr h₀ L h' m → News h₀ L h' ((A, sgO r t0 t1 t2) :: news) → (∀ p ∈ news, p.1 < A) → Q (.ref A) { s with heap := h', toks := tk' }
theorem ret_sg {news all : List (Addr × Obj)} {r : Str × Str × Str} {h₀ h' : Heap} {L A : Addr} {m : Str → Option Value} {s : Shared} {Q : Value → Shared → Prop} {t0 t1 t2 : Tok} {tk' : Nat}
    (hret : RetSg news r h₀ L m s Q) (F : Fr h₀ L h' m) (N : News h₀ L h' all) (h1 : (A, sgO r t0 t1 t2) ∈ all) (hs : ∀ p ∈ news, p ∈ all) (l1 : ∀ p ∈ news, p.1 < A) : Q (.ref A) { s with heap := h', toks := tk' } := by
  refine hret A t0 t1 t2 h' tk' F (fun p hp => N p ?_) l1
  rcases List.mem_cons.mp hp with rfl | hp
  · exact h1
  exact hs p hp
theorem signs_con (w : World) (mean : ExcName → Option Value) (mg mb : Str → Option Value) (news : List (Addr × Obj)) (k : Int) (t : Tok) (h0 : 0 ≤ k) (h2 : k ≤ 2) :
   Con w mean mg mb 164 2 news [.int k t] (RetSg news (signs k)) := by
  unfold Con
  k_fill
  w_top on
  w_on
  k_with_none
  k_with "TL lt0" => (first | (with_reducible assumption) | (refine lt_t ?_ (by with_reducible assumption); k_extra "TL lt0") | (with_reducible exact And.left (by assumption)) | (with_reducible exact And.left (And.right (by assumption))) | (with_reducible exact And.left (And.right (And.right (by assumption)))) | (with_reducible exact And.left (And.right (And.right (And.right (by assumption))))) | (with_reducible exact And.left (And.right (And.right (And.right (And.right (by assumption)))))) | (with_reducible exact And.left (And.right (And.right (And.right (And.right (And.right (by assumption))))))) | (with_reducible exact And.left (And.right (And.right (And.right (And.right (And.right (And.right (by assumption)))))))) | (with_reducible exact And.left (And.right (And.right (And.right (And.right (And.right (And.right (And.right (by assumption))))))))) | (with_reducible exact And.left (And.right (And.right (And.right (And.right (And.right (And.right (And.right (And.right (by assumption)))))))))) | (with_reducible exact And.left (And.right (And.right (And.right (And.right (And.right (And.right (And.right (And.right (And.right (by assumption))))))))))) | (with_reducible exact And.left (And.right (And.right (And.right (And.right (And.right (And.right (And.right (And.right (And.right (And.right (by assumption)))))))))))) | (with_reducible exact And.left (And.right (And.right (And.right (And.right (And.right (And.right (And.right (And.right (And.right (And.right (And.right (by assumption))))))))))))) | (with_reducible exact And.left (And.right (And.right (And.right (And.right (And.right (And.right (And.right (And.right (And.right (And.right (And.right (And.right (by assumption)))))))))))))) | (with_reducible exact And.left (And.right (And.right (And.right (And.right (And.right (And.right (And.right (And.right (And.right (And.right (And.right (And.right (And.right (by assumption))))))))))))))) | (with_reducible exact And.left (And.right (And.right (And.right (And.right (And.right (And.right (And.right (And.right (And.right (And.right (And.right (And.right (And.right (And.right (by assumption)))))))))))))))) | (with_reducible exact And.left (And.right (And.right (And.right (And.right (And.right (And.right (And.right (And.right (And.right (And.right (And.right (And.right (And.right (And.right (And.right (by assumption))))))))))))))))) | (with_reducible exact And.left (And.right (And.right (And.right (And.right (And.right (And.right (And.right (And.right (And.right (And.right (And.right (And.right (And.right (And.right (And.right (And.right (by assumption)))))))))))))))))) | (with_reducible exact And.left (And.right (And.right (And.right (And.right (And.right (And.right (And.right (And.right (And.right (And.right (And.right (And.right (And.right (And.right (And.right (And.right (And.right (by assumption))))))))))))))))))) | (with_reducible exact And.left (And.right (And.right (And.right (And.right (And.right (And.right (And.right (And.right (And.right (And.right (And.right (And.right (And.right (And.right (And.right (And.right (And.right (And.right (by assumption)))))))))))))))))))) | (with_reducible exact And.left (And.right (And.right (And.right (And.right (And.right (And.right (And.right (And.right (And.right (And.right (And.right (And.right (And.right (And.right (And.right (And.right (And.right (And.right (And.right (by assumption))))))))))))))))))))) | (with_reducible exact And.left (And.right (And.right (And.right (And.right (And.right (And.right (And.right (And.right (And.right (And.right (And.right (And.right (And.right (And.right (And.right (And.right (And.right (And.right (And.right (And.right (by assumption)))))))))))))))))))))) | (with_reducible exact And.left (And.right (And.right (And.right (And.right (And.right (And.right (And.right (And.right (And.right (And.right (And.right (And.right (And.right (And.right (And.right (And.right (And.right (And.right (And.right (And.right (And.right (by assumption))))))))))))))))))))))) | (with_reducible exact And.left (And.right (And.right (And.right (And.right (And.right (And.right (And.right (And.right (And.right (And.right (And.right (And.right (And.right (And.right (And.right (And.right (And.right (And.right (And.right (And.right (And.right (And.right (by assumption)))))))))))))))))))))))) | (with_reducible exact And.left (And.right (And.right (And.right (And.right (And.right (And.right (And.right (And.right (And.right (And.right (And.right (And.right (And.right (And.right (And.right (And.right (And.right (And.right (And.right (And.right (And.right (And.right (And.right (by assumption))))))))))))))))))))))))) | (with_reducible exact And.right (by assumption)) | (with_reducible exact And.right (And.right (by assumption))) | (with_reducible exact And.right (And.right (And.right (by assumption)))) | (with_reducible exact And.right (And.right (And.right (And.right (by assumption))))) | (with_reducible exact And.right (And.right (And.right (And.right (And.right (by assumption)))))) | (with_reducible exact And.right (And.right (And.right (And.right (And.right (And.right (by assumption))))))) | (with_reducible exact And.right (And.right (And.right (And.right (And.right (And.right (And.right (by assumption)))))))) | (with_reducible exact And.right (And.right (And.right (And.right (And.right (And.right (And.right (And.right (by assumption))))))))) | (with_reducible exact And.right (And.right (And.right (And.right (And.right (And.right (And.right (And.right (And.right (by assumption)))))))))) | (with_reducible exact And.right (And.right (And.right (And.right (And.right (And.right (And.right (And.right (And.right (And.right (by assumption))))))))))) | (with_reducible exact And.right (And.right (And.right (And.right (And.right (And.right (And.right (And.right (And.right (And.right (And.right (by assumption)))))))))))) | (with_reducible exact And.right (And.right (And.right (And.right (And.right (And.right (And.right (And.right (And.right (And.right (And.right (And.right (by assumption))))))))))))) | (with_reducible exact And.right (And.right (And.right (And.right (And.right (And.right (And.right (And.right (And.right (And.right (And.right (And.right (And.right (by assumption)))))))))))))) | (with_reducible exact And.right (And.right (And.right (And.right (And.right (And.right (And.right (And.right (And.right (And.right (And.right (And.right (And.right (And.right (by assumption))))))))))))))) | (with_reducible exact And.right (And.right (And.right (And.right (And.right (And.right (And.right (And.right (And.right (And.right (And.right (And.right (And.right (And.right (And.right (by assumption)))))))))))))))) | (with_reducible exact And.right (And.right (And.right (And.right (And.right (And.right (And.right (And.right (And.right (And.right (And.right (And.right (And.right (And.right (And.right (And.right (by assumption))))))))))))))))) | (with_reducible exact And.right (And.right (And.right (And.right (And.right (And.right (And.right (And.right (And.right (And.right (And.right (And.right (And.right (And.right (And.right (And.right (And.right (by assumption)))))))))))))))))) | (with_reducible exact And.right (And.right (And.right (And.right (And.right (And.right (And.right (And.right (And.right (And.right (And.right (And.right (And.right (And.right (And.right (And.right (And.right (And.right (by assumption))))))))))))))))))) | (with_reducible exact And.right (And.right (And.right (And.right (And.right (And.right (And.right (And.right (And.right (And.right (And.right (And.right (And.right (And.right (And.right (And.right (And.right (And.right (And.right (by assumption)))))))))))))))))))) | (with_reducible exact And.right (And.right (And.right (And.right (And.right (And.right (And.right (And.right (And.right (And.right (And.right (And.right (And.right (And.right (And.right (And.right (And.right (And.right (And.right (And.right (by assumption))))))))))))))))))))) | (with_reducible exact And.right (And.right (And.right (And.right (And.right (And.right (And.right (And.right (And.right (And.right (And.right (And.right (And.right (And.right (And.right (And.right (And.right (And.right (And.right (And.right (And.right (by assumption)))))))))))))))))))))) | (with_reducible exact And.right (And.right (And.right (And.right (And.right (And.right (And.right (And.right (And.right (And.right (And.right (And.right (And.right (And.right (And.right (And.right (And.right (And.right (And.right (And.right (And.right (And.right (by assumption))))))))))))))))))))))) | (with_reducible exact And.right (And.right (And.right (And.right (And.right (And.right (And.right (And.right (And.right (And.right (And.right (And.right (And.right (And.right (And.right (And.right (And.right (And.right (And.right (And.right (And.right (And.right (And.right (by assumption)))))))))))))))))))))))))
  k_with "TL ne0" => (refine neN ?_; (try dsimp only); first | (with_reducible assumption) | (refine Ne.symm ?_; with_reducible assumption) | (with_reducible exact And.left (by assumption)) | (with_reducible exact And.left (And.right (by assumption))) | (with_reducible exact And.left (And.right (And.right (by assumption)))) | (with_reducible exact And.left (And.right (And.right (And.right (by assumption))))) | (with_reducible exact And.left (And.right (And.right (And.right (And.right (by assumption)))))) | (with_reducible exact And.left (And.right (And.right (And.right (And.right (And.right (by assumption))))))) | (with_reducible exact Ne.symm <| And.left (by assumption)) | (with_reducible exact Ne.symm <| And.left (And.right (by assumption))) | (with_reducible exact Ne.symm <| And.left (And.right (And.right (by assumption)))) | (with_reducible exact Ne.symm <| And.left (And.right (And.right (And.right (by assumption))))) | (with_reducible exact Ne.symm <| And.left (And.right (And.right (And.right (And.right (by assumption)))))) | (with_reducible exact Ne.symm <| And.left (And.right (And.right (And.right (And.right (And.right (by assumption))))))) | (refine ne_gt ?_; k_extra "TL lt0") | (refine ne_lt ?_; k_extra "TL lt0"))
  k_with "TL le" => (first | (with_reducible assumption) | (with_reducible exact Nat.le_refl _) | (with_reducible exact Nat.succ_le_of_lt (by assumption)) | (with_reducible exact Nat.le_of_lt (by assumption)) | (with_reducible refine le_ss ?_; k_extra "TL le") | ((fail_if_success (with_reducible refine le_ss ?_)); with_reducible refine le_s ?_; k_extra "TL le") | ((fail_if_success (with_reducible refine le_s ?_)); refine le_t ?_ (by with_reducible assumption); k_extra "TL le") | ((fail_if_success (with_reducible refine le_s ?_)); refine le_t ?_ (Nat.le_of_lt (by with_reducible assumption)); k_extra "TL le"))
  k_with "TL mem" => (assumption)
  intro dp un gd cn cs a ccd cl outer A₀ base h₀ L m s Q E B F X N T hk hdp hu hret
  obtain rfl | rfl | rfl : k = 0 ∨ k = 1 ∨ k = 2 := int012 (by first | assumption | exact ⟨by assumption, by assumption⟩)
  all_goals refine wpAny_call ?_
  all_goals k_dflt cell_enter
  all_goals w_strict (k_steps; all_goals first
    | (refine' ret_sg hret ?F ?N ?h1 ?hs ?l1; (case F => k_asm); (case N => k_asm); (case h1 => (show (_, W.listOf #[.str _ _, .str _ _, .str _ _] 0) ∈ _; first | exact .head _ | exact .tail _ (.head _) | exact .tail _ (.tail _ (.head _)) | exact .tail _ (.tail _ (.tail _ (.head _))))); (case hs => kcf_all); (case l1 => first | assumption | exact ktn_ltOf (And.right (by assumption)) | exact ktn_ltOf (And.right (And.right (by assumption))))))
end TL
end

section
open PySem PySem.W PySem.Spec PySem.Calls PyProof.Rows
set_option maxRecDepth 100000
set_option maxHeartbeats 8000000
namespace TL
section
variable {prog : Program} {w : World} {A : Around} {E : Value → Shared → Prop} {s : Shared} {env : Env} {h₀ : Heap} {x : Str} {body : List Stmt} {Q : Flow → Shared → Prop}

theorem loop_any2 {P : Nat → Value → Prop} {St : Nat → Heap → Prop} {n : Nat} {I l : Addr} {ol : Obj} {m₀ : Str → Option Value} {news : List (Addr × Obj)} (J : Nat → (Str → Option Value) → List (Addr × Obj) → Prop)
    (W : Walks prog w A I [I, l] [I] n P St) (hI : ∀ i h, St i h → ∃ o, h.get? I = some o) (hst : St 0 s.heap) (hIL : env.locals ≠ I) (hI₀ : h₀.get? I = none) (hnI : ∀ p ∈ news, p.1 ≠ I)
    (F : Fr h₀ env.locals s.heap m₀) (N : News h₀ env.locals s.heap news) (hj : J 0 m₀ news) (hJl : ∀ i m nw, J i m nw → (l, ol) ∈ nw)
    (turn : ∀ i v m₁ news₁ h tk oI, i < n → P i v → J i m₁ news₁ → (∀ p ∈ news₁, p.1 ≠ I) → Fr h₀ env.locals h (fun y => if y = x then some v else m₁ y) → News h₀ env.locals h ((I, oI) :: news₁) →
      wpAny (model prog w) A (execs body env) (TurnEnd h₀ env.locals I oI (J (i + 1)) { s with heap := h, toks := tk } Q) E { s with heap := h, toks := tk })
    (done : ∀ m₁ news₁ h tk, J n m₁ news₁ → Fr h₀ env.locals h m₁ → News h₀ env.locals h news₁ → Q .next { s with heap := h, toks := tk }) :
    LoopAtV prog w A h₀ env x body Q E (.ref I) s := by
  have z0 := N _ (hJl _ _ _ hj)
  refine ⟨I, [I, l], [I], n, P, St, m₀, news, J, rfl, W, ?_, fun b hb => by rw [List.mem_singleton.mp hb]; exact hI₀, fun p hp hb => hnI p hp (List.mem_singleton.mp hb), hst, F, N, hj, ?_, fun h' tk m' news' F' N' _ hJ => done m' news' h' tk hJ F' N'⟩
  · intro hm
    rcases List.mem_cons.mp hm with e | hm
    · exact hIL e
    · exact z0.2.1 (List.mem_singleton.mp hm).symm
  rintro i v m₁ news₁ s₁ own ⟨h, tk, rfl⟩ hi hP hJ hw1 hof hoh hoa hst' F₁ N₁
  obtain ⟨oI, hoI⟩ := hI _ _ hst'
  have hmem : (I, oI) ∈ own := hoa I (.head _) hI₀ oI hoI
  have hl1 : h.get? l = some ol := (N₁ (l, ol) (List.mem_append_right _ (hJl _ _ _ hJ))).1
  have hall : ∀ p ∈ own, p = (I, oI) ∨ p = (l, ol) := fun p hp => by
    have e2 := hoh p hp
    obtain ⟨a, b⟩ := p
    rcases List.mem_cons.mp (hof _ hp) with e1 | e1
    · simp only at e1 e2
      rw [e1] at e2
      have e3 : b = oI := Option.some.inj (e2.symm.trans hoI)
      left; rw [e1, e3]
    · have e1 := List.mem_singleton.mp e1
      simp only at e1 e2
      rw [e1] at e2
      have e3 : b = ol := Option.some.inj (e2.symm.trans hl1)
      right; rw [e1, e3]
  have N₂ : News h₀ env.locals h ((I, oI) :: news₁) := fun p hp => by
    rcases List.mem_cons.mp hp with rfl | hp
    · exact N₁ _ (List.mem_append_left _ hmem)
    · exact N₁ _ (List.mem_append_right _ hp)
  refine wpAny_mono (turn i v m₁ news₁ h tk oI hi hP hJ (fun p hp q => hw1 p hp (List.mem_singleton.mpr q)) F₁ N₂) (fun f s₂ hq => ?_) fun _ _ e => e
  have up : ∀ {h' : Heap} {m' : Str → Option Value} {news' : List (Addr × Obj)}, J (i + 1) m' news' → News h₀ env.locals h' ((I, oI) :: news') → News h₀ env.locals h' (own ++ news') := fun hJ' N' p hp => by
    rcases List.mem_append.mp hp with hp | hp
    · rcases hall p hp with rfl | rfl
      · exact N' _ (.head _)
      · exact N' _ (.tail _ (hJl _ _ _ hJ'))
    · exact N' _ (.tail _ hp)
  cases f with
  | ret v => exact hq
  | brk => exact hq
  | next =>
    obtain ⟨h', tk', m', news', rfl, F', N', off, hj'⟩ := hq
    exact ⟨rfl, h', tk', m', news', rfl, F', up hj' N', fun p hp q => off p hp (List.mem_singleton.mp q), hj'⟩
  | cont =>
    obtain ⟨h', tk', m', news', rfl, F', N', off, hj'⟩ := hq
    exact ⟨rfl, h', tk', m', news', rfl, F', up hj' N', fun p hp q => off p hp (List.mem_singleton.mp q), hj'⟩

theorem loop_list {l : Addr} {vs : List Value} {k : Nat} {m₀ : Str → Option Value} {news : List (Addr × Obj)} (J : Nat → (Str → Option Value) → List (Addr × Obj) → Prop)
    (hh : A.handled = none) (F : Fr h₀ env.locals s.heap m₀) (N : News h₀ env.locals s.heap news) (hj : J 0 m₀ news) (hJl : ∀ i m nw, J i m nw → (l, W.listOf vs.toArray k) ∈ nw)
    (turn : ∀ i v m₁ news₁ h tk I oI, vs[i]? = some v → J i m₁ news₁ → (∀ p ∈ news₁, p.1 ≠ I) → Fr h₀ env.locals h (fun y => if y = x then some v else m₁ y) → News h₀ env.locals h ((I, oI) :: news₁) →
      ∀ s', s' = { s with heap := h, toks := tk } → wpAny (model prog w) A (execs body env) (TurnEnd h₀ env.locals I oI (J (i + 1)) s' Q) E s')
    (done : ∀ m₁ news₁ h tk, J vs.length m₁ news₁ → Fr h₀ env.locals h m₁ → News h₀ env.locals h news₁ → Q .next { s with heap := h, toks := tk }) :
    wpAny (model prog w) A (pyIter (.ref l)) (fun it s₂ => LoopAtV prog w A h₀ env x body Q E it s₂) E s := by
  have z := N _ (hJl _ _ _ hj)
  have hls : s.heap.IsList l vs.toArray := News.isList N (hJl _ _ _ hj)
  have hne : l ≠ s.heap.objs.size := Nat.ne_of_lt (Heap.lt_size z.1)
  refine wpAny_pyIter_list hls ?_
  have up : ∀ b o, s.heap.get? b = some o → (s.heap.push { cls := .type "list_iterator", data := .fields #[.ref l, .int 0 0] }).get? b = some o := fun b o e => Heap.get?_push_of_some _ e
  have Wk := Walks.list (prog := prog) (w := w) (A := A) hh s.heap.objs.size l hne vs.toArray
  rw [List.size_toArray] at Wk
  refine loop_any2 (ol := W.listOf vs.toArray k) J Wk (fun i h st => by obtain ⟨o, e, _⟩ := st.1; exact ⟨o, e⟩) ⟨⟨_, Heap.get?_push_size _ rfl, rfl, rfl⟩, hls.push _⟩ (Nat.ne_of_lt F.ns.lt) (next_is_new F) (fun p hp => Nat.ne_of_lt (Heap.lt_size (N p hp).1)) (F.keeps up) (N.grown up) hj hJl ?_ ?_
  · rintro i v m₁ news₁ h tk oI hi hP hJ hn F₁ N₁
    exact turn i v m₁ news₁ h tk _ oI (by simpa using hP) hJ hn F₁ N₁ _ rfl
  · intro m₁ news₁ h tk hJ F₁ N₁
    exact done m₁ news₁ h tk hJ F₁ N₁

theorem loop_tup {l : Addr} {vs : List Value} {k : Nat} {m₀ : Str → Option Value} {news : List (Addr × Obj)} (J : Nat → (Str → Option Value) → List (Addr × Obj) → Prop)
    (hh : A.handled = none) (F : Fr h₀ env.locals s.heap m₀) (N : News h₀ env.locals s.heap news) (hj : J 0 m₀ news) (hJl : ∀ i m nw, J i m nw → (l, ({ cls := .type "tuple", data := .seq vs.toArray k } : Obj)) ∈ nw)
    (turn : ∀ i v m₁ news₁ h tk I oI, vs[i]? = some v → J i m₁ news₁ → (∀ p ∈ news₁, p.1 ≠ I) → Fr h₀ env.locals h (fun y => if y = x then some v else m₁ y) → News h₀ env.locals h ((I, oI) :: news₁) →
      ∀ s', s' = { s with heap := h, toks := tk } → wpAny (model prog w) A (execs body env) (TurnEnd h₀ env.locals I oI (J (i + 1)) s' Q) E s')
    (done : ∀ m₁ news₁ h tk, J vs.length m₁ news₁ → Fr h₀ env.locals h m₁ → News h₀ env.locals h news₁ → Q .next { s with heap := h, toks := tk }) :
    wpAny (model prog w) A (pyIter (.ref l)) (fun it s₂ => LoopAtV prog w A h₀ env x body Q E it s₂) E s := by
  have z := N _ (hJl _ _ _ hj)
  have hls : s.heap.IsTuple l vs.toArray := News.isTup N (hJl _ _ _ hj)
  have hne : l ≠ s.heap.objs.size := Nat.ne_of_lt (Heap.lt_size z.1)
  refine wpAny_pyIter_tuple hls ?_
  have up : ∀ b o, s.heap.get? b = some o → (s.heap.push { cls := .type "tuple_iterator", data := .fields #[.ref l, .int 0 0] }).get? b = some o := fun b o e => Heap.get?_push_of_some _ e
  have Wk := Walks.tuple (prog := prog) (w := w) (A := A) hh s.heap.objs.size l hne vs.toArray
  rw [List.size_toArray] at Wk
  refine loop_any2 (ol := ({ cls := .type "tuple", data := .seq vs.toArray k } : Obj)) J Wk (fun i h st => by obtain ⟨o, e, _⟩ := st.1; exact ⟨o, e⟩) ⟨⟨_, Heap.get?_push_size _ rfl, rfl, rfl⟩, hls.push _⟩ (Nat.ne_of_lt F.ns.lt) (next_is_new F) (fun p hp => Nat.ne_of_lt (Heap.lt_size (N p hp).1)) (F.keeps up) (N.grown up) hj hJl ?_ ?_
  · rintro i v m₁ news₁ h tk oI hi hP hJ hn F₁ N₁
    exact turn i v m₁ news₁ h tk _ oI (by simpa using hP) hJ hn F₁ N₁ _ rfl
  · intro m₁ news₁ h tk hJ F₁ N₁
    exact done m₁ news₁ h tk hJ F₁ N₁
end
end TL
end

section
open PySem PySem.W PySem.Spec PySem.Calls PyProof.Rows
set_option maxRecDepth 100000
set_option maxHeartbeats 8000000
namespace TL
/-- the kind that a sign tells -/
def kindAt (c : Nat) : Nat := if c = 60 ∨ c = 62 then 0 else if c = 34 then 2 else 1
/-- the signs of a hand, of one kind -/
def sgAt (r : Str × Str × Str) (q : Int) : Str := if q = 0 then r.1 else if q = 1 then r.2.1 else r.2.2
def SgOf (r : Str × Str × Str) (c : Nat) : Prop := c ∈ (sgAt r (kindAt c)).cps.toList
def BeadsOk (r : Str × Str × Str) (n : Nat) (z : Str) : Prop := z.cps.size = n ∧ ∀ c ∈ z.cps.toList, SgOf r c
/-- what is known of the necklace after i heaps -/
def Even3 (z : Str) : Prop := ∀ q < 3, z.cps.toList.countP (fun c => kindAt c == q) % 2 = 0
/-- after j beads of the kind q more -/
def beJ (base : List (Addr × Obj)) (m₀ : Str → Option Value) (r : Str × Str × Str) (i : Nat) (m₁ : Str → Option Value) (nw : List (Addr × Obj)) : Prop :=
  ∃ (z : Str) (t : Tok), (∀ p ∈ base, p ∈ nw) ∧ BeadsOk r (2 * i) z ∧ Even3 z ∧ m₁ (Str.ofString "beads") = some (.str z t) ∧
    ∀ y, y ≠ Str.ofString "beads" → y ≠ Str.ofString "x" → y ≠ Str.ofString "kind" → y ≠ Str.ofString "part" → y ≠ Str.ofString "place" → m₁ y = m₀ y
theorem be_map {m₀ m₁ : Str → Option Value} {z : Str} {t : Tok} {V : Option Value} (h1 : m₁ (Str.ofString "beads") = some (.str z t))
    (h5 : ∀ y, y ≠ Str.ofString "beads" → y ≠ Str.ofString "x" → y ≠ Str.ofString "kind" → y ≠ Str.ofString "part" → y ≠ Str.ofString "place" → m₁ y = m₀ y) :
    (fun y => if y = Str.ofString "x" then V else m₁ y) = fun y => if y = Str.ofString "x" then V else if y = Str.ofString "kind" then m₁ (Str.ofString "kind") else if y = Str.ofString "part" then m₁ (Str.ofString "part") else if y = Str.ofString "place" then m₁ (Str.ofString "place") else if y = Str.ofString "beads" then some (.str z t) else m₀ y := by
  funext y
  by_cases e0 : y = Str.ofString "x"
  · rw [if_pos e0, if_pos e0]
  rw [if_neg e0, if_neg e0]
  by_cases e1 : y = Str.ofString "kind"
  · rw [if_pos e1, e1]
  rw [if_neg e1]
  by_cases e2 : y = Str.ofString "part"
  · rw [if_pos e2, e2]
  rw [if_neg e2]
  by_cases e3 : y = Str.ofString "place"
  · rw [if_pos e3, e3]
  rw [if_neg e3]
  by_cases e4 : y = Str.ofString "beads"
  · rw [if_pos e4, e4, h1]
  rw [if_neg e4]
  exact h5 y e4 e0 e1 e2 e3
theorem self_x (m₁ : Str → Option Value) : m₁ = fun y => if y = Str.ofString "x" then m₁ (Str.ofString "x") else m₁ y := by
  funext y
  by_cases e0 : y = Str.ofString "x"
  · rw [if_pos e0, e0]
  rw [if_neg e0]
/-- after j beads of the kind q more -/
def beI (base : List (Addr × Obj)) (m₀ : Str → Option Value) (r : Str × Str × Str) (i : Nat) (q : Int) (j : Nat) (m₁ : Str → Option Value) (nw : List (Addr × Obj)) : Prop :=
  ∃ (z : Str) (t : Tok), (∀ p ∈ base, p ∈ nw) ∧ BeadsOk r (2 * i + j) z ∧ (∀ q' < 3, z.cps.toList.countP (fun c => kindAt c == q') % 2 = if (q' : Int) = q then j % 2 else 0) ∧ m₁ (Str.ofString "beads") = some (.str z t) ∧
    ∀ y, y ≠ Str.ofString "beads" → y ≠ Str.ofString "part" → y ≠ Str.ofString "place" → m₁ y = m₀ y
theorem bi_map {m₀ m₁ : Str → Option Value} {z : Str} {t : Tok} {V : Option Value} (h1 : m₁ (Str.ofString "beads") = some (.str z t))
    (h5 : ∀ y, y ≠ Str.ofString "beads" → y ≠ Str.ofString "part" → y ≠ Str.ofString "place" → m₁ y = m₀ y) :
    (fun y => if y = Str.ofString "part" then V else m₁ y) = fun y => if y = Str.ofString "part" then V else if y = Str.ofString "place" then m₁ (Str.ofString "place") else if y = Str.ofString "beads" then some (.str z t) else m₀ y := by
  funext y
  by_cases e0 : y = Str.ofString "part"
  · rw [if_pos e0, if_pos e0]
  rw [if_neg e0, if_neg e0]
  by_cases e3 : y = Str.ofString "place"
  · rw [if_pos e3, e3]
  rw [if_neg e3]
  by_cases e4 : y = Str.ofString "beads"
  · rw [if_pos e4, e4, h1]
  rw [if_neg e4]
  exact h5 y e4 e0 e3
theorem self_part (m₁ : Str → Option Value) : m₁ = fun y => if y = Str.ofString "part" then m₁ (Str.ofString "part") else m₁ y := by
  funext y
  by_cases e0 : y = Str.ofString "part"
  · rw [if_pos e0, e0]
  rw [if_neg e0]
abbrev RetB (news : List (Addr × Obj)) (r : Str × Str × Str) (n : Nat) : Heap → Addr → (Str → Option Value) → Shared → (Value → Shared → Prop) → Prop :=
  fun h₀ L m s Q => ∀ (z : Str) (t : Tok) (h' : Heap) (tk' : Nat), Fr h₀ L h' m → News h₀ L h' news → BeadsOk r n z → Even3 z → Q (.str z t) { s with heap := h', toks := tk' }

theorem item_row {prog : Program} {w : World} {A : Around} {E : Value → Shared → Prop} {s : Shared} {Q : Value → Shared → Prop} {h₀ : Heap} {L D : Addr} {all : List (Addr × Obj)} {r : Str × Str × Str} {t0 t1 t2 u : Tok} {i : Int} {value slice : PySem.Expr}
    (N : News h₀ L s.heap all) (hm : (D, sgO r t0 t1 t2) ∈ all) (h0 : 0 ≤ i) (hi : i < 3)
    (h : ∀ t, Q (.str (sgAt r i) t) s)
    (hs : subscripted slice false (.ref D) (.int i u) = operate [.ref D, .int i u] (getItem (.ref D) (.int i u)) := by with_unfolding_all rfl) :
    wpAny (model prog w) A (subscriptTail value slice (.ref D) (.int i u)) Q E s := by
  have hl : s.heap.IsList D #[.str r.1 t0, .str r.2.1 t1, .str r.2.2 t2] := ⟨_, (N _ hm).1, rfl, _, rfl⟩
  have hx : ∃ t, (#[.str r.1 t0, .str r.2.1 t1, .str r.2.2 t2] : Array Value)[i.toNat]? = some (.str (sgAt r i) t) := by
    obtain rfl | rfl | rfl : i = 0 ∨ i = 1 ∨ i = 2 := by omega
    · exact ⟨t0, rfl⟩
    · exact ⟨t1, rfl⟩
    · exact ⟨t2, rfl⟩
  obtain ⟨t, hx⟩ := hx
  exact tail_any hl.typeIs slot_list_getitem.lookup (wpAny_getItem_list hl (by omega) (by omega) hx (h t)) hs

theorem ints_turn {xs : List Value} {ns : List Int} {i : Nat} {v : Value} {B : Int} (hI : IntsAre xs ns) (hns : ∀ x ∈ ns, 0 ≤ x ∧ x < B) (hv : xs[i]? = some v) : ∃ n t, v = .int n t ∧ 0 ≤ n ∧ n < B := by
  induction hI generalizing i with
  | nil => simp at hv
  | cons n t _ ih =>
    cases i with
    | zero =>
      obtain rfl := Option.some.inj hv
      exact ⟨n, t, rfl, hns n (.head _)⟩
    | succ i => exact ih (fun x hx => hns x (.tail _ hx)) hv

theorem news_sub {h₀ h : Heap} {L : Addr} {a b : List (Addr × Obj)} (N : News h₀ L h b) (hs : ∀ p ∈ a, p ∈ b) : News h₀ L h a := fun p hp => N p (hs p hp)
theorem parts_small {n : Int} (h0 : 0 ≤ n) (h1 : n < 1000000) : ∀ x ∈ [n.fdiv 3, n.fdiv 300], 0 ≤ x ∧ x < 1000000 := by
  intro x hx
  rw [Int.fdiv_eq_ediv_of_nonneg _ (by decide), Int.fdiv_eq_ediv_of_nonneg _ (by decide)] at hx
  rcases List.mem_cons.mp hx with rfl | hx
  · omega
  rw [List.mem_singleton.mp hx]
  omega

theorem sg_len {k : Int} (q : Int) (h0 : 0 ≤ k) (h2 : k ≤ 2) : 1 ≤ (sgAt (signs k) q).length ∧ (sgAt (signs k) q).length ≤ 4 := by
  obtain rfl | rfl | rfl : k = 0 ∨ k = 1 ∨ k = 2 := int012 (by first | assumption | exact ⟨by assumption, by assumption⟩)
  all_goals (unfold sgAt; repeat' split)
  all_goals decide
theorem item_sg {prog : Program} {w : World} {A : Around} {E : Value → Shared → Prop} {s : Shared} {Q : Value → Shared → Prop} {y : Str} {p : Int} {t u : Tok} {value slice : PySem.Expr} (hy : 1 ≤ y.length ∧ y.length ≤ 4)
    (h : ∀ c t' tk', c ∈ y.cps.toList → Q (.str ⟨#[c]⟩ t') { s with toks := tk' })
    (hs : subscripted slice false (.str y t) (.int (p.fmod y.length) u) = operate [.str y t, .int (p.fmod y.length) u] (getItem (.str y t) (.int (p.fmod y.length) u)) := by with_unfolding_all rfl)
    (ht : ∀ r, letTemporaryGo value (.str y t) r = pure () := by intro _; with_unfolding_all rfl) :
    wpAny (model prog w) A (subscriptTail value slice (.str y t) (.int (p.fmod y.length) u)) Q E s := by
  have h0 : 0 ≤ p.fmod y.length := Int.fmod_nonneg_of_pos _ (by omega)
  have h1 : p.fmod y.length < y.length := Int.fmod_lt_of_pos _ (by omega)
  refine W.KXi.item (n := y.length) rfl (by omega) h1 (by omega) (fun _ => ?_) hs ht
  refine h _ _ _ ?_
  have e : Txt.charAt y (p.fmod y.length) = y.cps[(p.fmod y.length).toNat]? := by
    unfold Txt.charAt seqIndex?
    simp only [show ¬ p.fmod (y.length : Int) < 0 by omega, if_false, decide_eq_true h0, decide_eq_true h1, Bool.and_self, if_true, Option.bind]
  rw [e]
  have hlt : (p.fmod y.length).toNat < y.cps.size := by have : y.length = y.cps.size := rfl; omega
  rw [Array.getElem?_eq_getElem hlt, Option.getD_some, Array.mem_toList_iff]
  exact Array.getElem_mem hlt
theorem ins_perm {z : Str} {c : Nat} {pl : Int} (h0 : 0 ≤ pl) (h1 : pl ≤ z.length) : ((Txt.slice z none (some pl) ++ (⟨#[c]⟩ : Str)) ++ Txt.slice z (some pl) none).cps.toList.Perm (c :: z.cps.toList) := by
  have e1 : Txt.slice z none (some pl) = ⟨((z.cps.toList.drop (0 : Int).toNat).take (pl - 0).toNat).toArray⟩ := eq_of_beq (slice_closes_toL h0 h1)
  have e2 : Txt.slice z (some pl) none = ⟨((z.cps.toList.drop pl.toNat).take ((z.length : Int) - pl).toNat).toArray⟩ := eq_of_beq (slice_closes_fromL h0 h1 rfl)
  have e3 : (z.cps.toList.drop pl.toNat).take ((z.length : Int) - pl).toNat = z.cps.toList.drop pl.toNat := by
    rw [List.take_of_length_le]
    rw [List.length_drop, Array.length_toList]
    have : z.length = z.cps.size := rfl
    omega
  rw [e1, e2, e3]
  show (((z.cps.toList.drop 0).take (pl - 0).toNat).toArray ++ #[c] ++ (z.cps.toList.drop pl.toNat).toArray).toList.Perm _
  rw [List.drop_zero, Int.sub_zero]
  simp only [Array.toList_append, List.append_assoc]
  show (z.cps.toList.take pl.toNat ++ (c :: z.cps.toList.drop pl.toNat)).Perm _
  refine List.perm_middle.trans (.cons _ ?_)
  rw [List.take_append_drop]
theorem sg_kind {k q : Int} (h0 : 0 ≤ k) (h2 : k ≤ 2) (q0 : 0 ≤ q) (q2 : q < 3) : ∀ c ∈ (sgAt (signs k) q).cps.toList, (kindAt c : Int) = q := by
  obtain rfl | rfl | rfl : k = 0 ∨ k = 1 ∨ k = 2 := int012 (by first | assumption | exact ⟨by assumption, by assumption⟩)
  all_goals obtain rfl | rfl | rfl : q = 0 ∨ q = 1 ∨ q = 2 := by omega
  all_goals decide
theorem be_ins {k q pl : Int} {z : Str} {c i j : Nat} (h0 : 0 ≤ k) (h2 : k ≤ 2) (q0 : 0 ≤ q) (q2 : q < 3) (hz : BeadsOk (signs k) (2 * i + j) z) (p0 : 0 ≤ pl) (p1 : pl ≤ z.length) (hc : c ∈ (sgAt (signs k) q).cps.toList)
    (hev : ∀ q' < 3, z.cps.toList.countP (fun c => kindAt c == q') % 2 = if (q' : Int) = q then j % 2 else 0) :
    BeadsOk (signs k) (2 * i + (j + 1)) ((Txt.slice z none (some pl) ++ (⟨#[c]⟩ : Str)) ++ Txt.slice z (some pl) none) ∧
      ∀ q' < 3, ((Txt.slice z none (some pl) ++ (⟨#[c]⟩ : Str)) ++ Txt.slice z (some pl) none).cps.toList.countP (fun c => kindAt c == q') % 2 = if (q' : Int) = q then (j + 1) % 2 else 0 := by
  have hp := ins_perm (c := c) p0 p1
  have hk := sg_kind h0 h2 q0 q2 c hc
  refine ⟨⟨?_, ?_⟩, ?_⟩
  · have := hp.length_eq
    rw [Array.length_toList, List.length_cons, Array.length_toList, hz.1] at this
    omega
  · intro c' hc'
    rcases List.mem_cons.mp (hp.mem_iff.mp hc') with rfl | h
    · show c' ∈ (sgAt (signs k) (kindAt c' : Int)).cps.toList
      rw [hk]; exact hc
    · exact hz.2 _ h
  · intro q' hq'
    rw [hp.countP_eq, List.countP_cons]
    have := hev q' hq'
    by_cases e : (q' : Int) = q
    · have e1 : (kindAt c == q') = true := by rw [beq_iff_eq]; omega
      rw [if_pos e] at this ⊢
      rw [if_pos e1]; omega
    · have e1 : ¬ (kindAt c == q') = true := by rw [beq_iff_eq]; omega
      rw [if_neg e] at this ⊢
      rw [if_neg e1]; omega
theorem be_nextO {h₀ h' : Heap} {L I : Addr} {oI : Obj} {m₀ m' : Str → Option Value} {s₁ : Shared} {Q : Flow → Shared → Prop} {tk' : Nat} {base nw all : List (Addr × Obj)} {r : Str × Str × Str} {i : Nat} {z : Str} {t : Tok}
    (F : Fr h₀ L h' m') (N : News h₀ L h' all) (hs : ∀ p ∈ (I, oI) :: nw, p ∈ all) (hn : ∀ p ∈ nw, p.1 ≠ I) (hb : ∀ p ∈ base, p ∈ nw) (hz : BeadsOk r (2 * i + 2) z) (hev : Even3 z) (r1 : m' (Str.ofString "beads") = some (.str z t))
    (r5 : ∀ y, y ≠ Str.ofString "beads" → y ≠ Str.ofString "x" → y ≠ Str.ofString "kind" → y ≠ Str.ofString "part" → y ≠ Str.ofString "place" → m' y = m₀ y) : TurnEnd h₀ L I oI (beJ base m₀ r (i + 1)) s₁ Q .next { s₁ with heap := h', toks := tk' } :=
  turn_next nw F N hs hn ⟨z, t, hb, hz, hev, r1, r5⟩
theorem be_nextI {h₀ h' : Heap} {L I : Addr} {oI : Obj} {m₀ m' : Str → Option Value} {s₁ : Shared} {Q : Flow → Shared → Prop} {tk' : Nat} {base nw : List (Addr × Obj)} {r : Str × Str × Str} {i j : Nat} {q : Int} {z : Str} {t : Tok}
    (F : Fr h₀ L h' m') (N : News h₀ L h' ((I, oI) :: nw)) (hn : ∀ p ∈ nw, p.1 ≠ I) (hb : ∀ p ∈ base, p ∈ nw) (hz : BeadsOk r (2 * i + (j + 1)) z ∧ ∀ q' < 3, z.cps.toList.countP (fun c => kindAt c == q') % 2 = if (q' : Int) = q then (j + 1) % 2 else 0) (r1 : m' (Str.ofString "beads") = some (.str z t))
    (r5 : ∀ y, y ≠ Str.ofString "beads" → y ≠ Str.ofString "part" → y ≠ Str.ofString "place" → m' y = m₀ y) : TurnEnd h₀ L I oI (beI base m₀ r i q (j + 1)) s₁ Q .next { s₁ with heap := h', toks := tk' } :=
  turn_next nw F N (fun _ h => h) hn ⟨z, t, hb, hz.1, hz.2, r1, r5⟩
theorem be_inner {prog : Program} {w : World} {A : Around} {E : Value → Shared → Prop} {s : Shared} {env : Env} {h₀ : Heap} {x : Str} {body : List Stmt} {Q : Flow → Shared → Prop} {l : Addr} {rest : List (Addr × Obj)} {n : Int} {ta tb t : Tok} {m₀ : Str → Option Value} {z : Str} {r : Str × Str × Str} {i k : Nat} {q : Int}
    (hh : A.handled = none) (F : Fr h₀ env.locals s.heap m₀) (N : News h₀ env.locals s.heap ((l, ({ cls := .type "tuple", data := .seq #[.int (n.fdiv 3) ta, .int (n.fdiv 300) tb] k } : Obj)) :: rest)) (hz : BeadsOk r (2 * i) z) (hev : Even3 z) (hm : m₀ (Str.ofString "beads") = some (.str z t)) (hx0 : 0 ≤ n) (hx1 : n < 1000000)
    (turn : ∀ i2 p tp m₁ news₁ h tk I oI, i2 < 2 → 0 ≤ p → p < 1000000 → beI ((l, ({ cls := .type "tuple", data := .seq #[.int (n.fdiv 3) ta, .int (n.fdiv 300) tb] k } : Obj)) :: rest) m₀ r i q i2 m₁ news₁ → (∀ p ∈ news₁, p.1 ≠ I) → Fr h₀ env.locals h (fun y => if y = x then some (.int p tp) else m₁ y) → News h₀ env.locals h ((I, oI) :: news₁) →
      ∀ s', s' = { s with heap := h, toks := tk } → wpAny (model prog w) A (execs body env) (TurnEnd h₀ env.locals I oI (beI ((l, ({ cls := .type "tuple", data := .seq #[.int (n.fdiv 3) ta, .int (n.fdiv 300) tb] k } : Obj)) :: rest) m₀ r i q (i2 + 1)) s' Q) E s')
    (done : ∀ m₁ news₁ h tk, beI ((l, ({ cls := .type "tuple", data := .seq #[.int (n.fdiv 3) ta, .int (n.fdiv 300) tb] k } : Obj)) :: rest) m₀ r i q 2 m₁ news₁ → Fr h₀ env.locals h m₁ → News h₀ env.locals h news₁ → Q .next { s with heap := h, toks := tk }) :
    wpAny (model prog w) A (pyIter (.ref l)) (fun it s₂ => LoopAtV prog w A h₀ env x body Q E it s₂) E s := by
  refine loop_tup (vs := [.int (n.fdiv 3) ta, .int (n.fdiv 300) tb]) (k := k) (beI _ m₀ r i q) hh F N ⟨z, t, fun _ h => h, hz, fun q' hq => by rw [hev q' hq]; split <;> rfl, hm, fun _ _ _ _ => rfl⟩ (fun i m nw hh => hh.elim fun z hh => hh.elim fun t hh => hh.1 _ (.head _)) ?_ done
  intro i2 v m₁ nw h tk I oI hv hJ hn F' N' s' e
  obtain ⟨p, tp, rfl, hp0, hp1⟩ := ints_turn (.cons _ _ (.cons _ _ .nil)) (parts_small hx0 hx1) hv
  exact turn i2 p tp m₁ nw h tk I oI (List.getElem?_eq_some_iff.mp hv).1 hp0 hp1 hJ hn F' N' s' e

theorem beads_con (w : World) (mean : ExcName → Option Value) (mg mb : Str → Option Value) (news : List (Addr × Obj)) (H R : Addr) (xs : List Value) (j : Nat) (ns : List Int) (t0 t1 t2 : Tok) (k : Int) (hk0 : 0 ≤ k) (hk2 : k ≤ 2)
    (hH : (H, W.listOf xs.toArray j) ∈ news) (hR : (R, sgO (signs k) t0 t1 t2) ∈ news) (hI : IntsAre xs ns) (h4 : ns.length = 4) (hns : ∀ x ∈ ns, 0 ≤ x ∧ x < 1000000) :
   Con w mean mg mb 176 3 news [.ref H, .ref R] (RetB news (signs k) 8) := by
  unfold Con
  k_fill
  w_top on
  w_on
  k_with_none
  k_with "TL lt0" => (first | (with_reducible assumption) | (refine lt_t ?_ (by with_reducible assumption); k_extra "TL lt0") | (with_reducible exact And.left (by assumption)) | (with_reducible exact And.left (And.right (by assumption))) | (with_reducible exact And.left (And.right (And.right (by assumption)))) | (with_reducible exact And.left (And.right (And.right (And.right (by assumption))))) | (with_reducible exact And.left (And.right (And.right (And.right (And.right (by assumption)))))) | (with_reducible exact And.left (And.right (And.right (And.right (And.right (And.right (by assumption))))))) | (with_reducible exact And.left (And.right (And.right (And.right (And.right (And.right (And.right (by assumption)))))))) | (with_reducible exact And.left (And.right (And.right (And.right (And.right (And.right (And.right (And.right (by assumption))))))))) | (with_reducible exact And.left (And.right (And.right (And.right (And.right (And.right (And.right (And.right (And.right (by assumption)))))))))) | (with_reducible exact And.left (And.right (And.right (And.right (And.right (And.right (And.right (And.right (And.right (And.right (by assumption))))))))))) | (with_reducible exact And.left (And.right (And.right (And.right (And.right (And.right (And.right (And.right (And.right (And.right (And.right (by assumption)))))))))))) | (with_reducible exact And.left (And.right (And.right (And.right (And.right (And.right (And.right (And.right (And.right (And.right (And.right (And.right (by assumption))))))))))))) | (with_reducible exact And.left (And.right (And.right (And.right (And.right (And.right (And.right (And.right (And.right (And.right (And.right (And.right (And.right (by assumption)))))))))))))) | (with_reducible exact And.left (And.right (And.right (And.right (And.right (And.right (And.right (And.right (And.right (And.right (And.right (And.right (And.right (And.right (by assumption))))))))))))))) | (with_reducible exact And.left (And.right (And.right (And.right (And.right (And.right (And.right (And.right (And.right (And.right (And.right (And.right (And.right (And.right (And.right (by assumption)))))))))))))))) | (with_reducible exact And.left (And.right (And.right (And.right (And.right (And.right (And.right (And.right (And.right (And.right (And.right (And.right (And.right (And.right (And.right (And.right (by assumption))))))))))))))))) | (with_reducible exact And.left (And.right (And.right (And.right (And.right (And.right (And.right (And.right (And.right (And.right (And.right (And.right (And.right (And.right (And.right (And.right (And.right (by assumption)))))))))))))))))) | (with_reducible exact And.left (And.right (And.right (And.right (And.right (And.right (And.right (And.right (And.right (And.right (And.right (And.right (And.right (And.right (And.right (And.right (And.right (And.right (by assumption))))))))))))))))))) | (with_reducible exact And.left (And.right (And.right (And.right (And.right (And.right (And.right (And.right (And.right (And.right (And.right (And.right (And.right (And.right (And.right (And.right (And.right (And.right (And.right (by assumption)))))))))))))))))))) | (with_reducible exact And.left (And.right (And.right (And.right (And.right (And.right (And.right (And.right (And.right (And.right (And.right (And.right (And.right (And.right (And.right (And.right (And.right (And.right (And.right (And.right (by assumption))))))))))))))))))))) | (with_reducible exact And.left (And.right (And.right (And.right (And.right (And.right (And.right (And.right (And.right (And.right (And.right (And.right (And.right (And.right (And.right (And.right (And.right (And.right (And.right (And.right (And.right (by assumption)))))))))))))))))))))) | (with_reducible exact And.left (And.right (And.right (And.right (And.right (And.right (And.right (And.right (And.right (And.right (And.right (And.right (And.right (And.right (And.right (And.right (And.right (And.right (And.right (And.right (And.right (And.right (by assumption))))))))))))))))))))))) | (with_reducible exact And.left (And.right (And.right (And.right (And.right (And.right (And.right (And.right (And.right (And.right (And.right (And.right (And.right (And.right (And.right (And.right (And.right (And.right (And.right (And.right (And.right (And.right (And.right (by assumption)))))))))))))))))))))))) | (with_reducible exact And.left (And.right (And.right (And.right (And.right (And.right (And.right (And.right (And.right (And.right (And.right (And.right (And.right (And.right (And.right (And.right (And.right (And.right (And.right (And.right (And.right (And.right (And.right (And.right (by assumption))))))))))))))))))))))))) | (with_reducible exact And.right (by assumption)) | (with_reducible exact And.right (And.right (by assumption))) | (with_reducible exact And.right (And.right (And.right (by assumption)))) | (with_reducible exact And.right (And.right (And.right (And.right (by assumption))))) | (with_reducible exact And.right (And.right (And.right (And.right (And.right (by assumption)))))) | (with_reducible exact And.right (And.right (And.right (And.right (And.right (And.right (by assumption))))))) | (with_reducible exact And.right (And.right (And.right (And.right (And.right (And.right (And.right (by assumption)))))))) | (with_reducible exact And.right (And.right (And.right (And.right (And.right (And.right (And.right (And.right (by assumption))))))))) | (with_reducible exact And.right (And.right (And.right (And.right (And.right (And.right (And.right (And.right (And.right (by assumption)))))))))) | (with_reducible exact And.right (And.right (And.right (And.right (And.right (And.right (And.right (And.right (And.right (And.right (by assumption))))))))))) | (with_reducible exact And.right (And.right (And.right (And.right (And.right (And.right (And.right (And.right (And.right (And.right (And.right (by assumption)))))))))))) | (with_reducible exact And.right (And.right (And.right (And.right (And.right (And.right (And.right (And.right (And.right (And.right (And.right (And.right (by assumption))))))))))))) | (with_reducible exact And.right (And.right (And.right (And.right (And.right (And.right (And.right (And.right (And.right (And.right (And.right (And.right (And.right (by assumption)))))))))))))) | (with_reducible exact And.right (And.right (And.right (And.right (And.right (And.right (And.right (And.right (And.right (And.right (And.right (And.right (And.right (And.right (by assumption))))))))))))))) | (with_reducible exact And.right (And.right (And.right (And.right (And.right (And.right (And.right (And.right (And.right (And.right (And.right (And.right (And.right (And.right (And.right (by assumption)))))))))))))))) | (with_reducible exact And.right (And.right (And.right (And.right (And.right (And.right (And.right (And.right (And.right (And.right (And.right (And.right (And.right (And.right (And.right (And.right (by assumption))))))))))))))))) | (with_reducible exact And.right (And.right (And.right (And.right (And.right (And.right (And.right (And.right (And.right (And.right (And.right (And.right (And.right (And.right (And.right (And.right (And.right (by assumption)))))))))))))))))) | (with_reducible exact And.right (And.right (And.right (And.right (And.right (And.right (And.right (And.right (And.right (And.right (And.right (And.right (And.right (And.right (And.right (And.right (And.right (And.right (by assumption))))))))))))))))))) | (with_reducible exact And.right (And.right (And.right (And.right (And.right (And.right (And.right (And.right (And.right (And.right (And.right (And.right (And.right (And.right (And.right (And.right (And.right (And.right (And.right (by assumption)))))))))))))))))))) | (with_reducible exact And.right (And.right (And.right (And.right (And.right (And.right (And.right (And.right (And.right (And.right (And.right (And.right (And.right (And.right (And.right (And.right (And.right (And.right (And.right (And.right (by assumption))))))))))))))))))))) | (with_reducible exact And.right (And.right (And.right (And.right (And.right (And.right (And.right (And.right (And.right (And.right (And.right (And.right (And.right (And.right (And.right (And.right (And.right (And.right (And.right (And.right (And.right (by assumption)))))))))))))))))))))) | (with_reducible exact And.right (And.right (And.right (And.right (And.right (And.right (And.right (And.right (And.right (And.right (And.right (And.right (And.right (And.right (And.right (And.right (And.right (And.right (And.right (And.right (And.right (And.right (by assumption))))))))))))))))))))))) | (with_reducible exact And.right (And.right (And.right (And.right (And.right (And.right (And.right (And.right (And.right (And.right (And.right (And.right (And.right (And.right (And.right (And.right (And.right (And.right (And.right (And.right (And.right (And.right (And.right (by assumption)))))))))))))))))))))))))
  k_with "TL ne0" => (refine neN ?_; (try dsimp only); first | (with_reducible assumption) | (refine Ne.symm ?_; with_reducible assumption) | (with_reducible exact And.left (by assumption)) | (with_reducible exact And.left (And.right (by assumption))) | (with_reducible exact And.left (And.right (And.right (by assumption)))) | (with_reducible exact And.left (And.right (And.right (And.right (by assumption))))) | (with_reducible exact And.left (And.right (And.right (And.right (And.right (by assumption)))))) | (with_reducible exact And.left (And.right (And.right (And.right (And.right (And.right (by assumption))))))) | (with_reducible exact Ne.symm <| And.left (by assumption)) | (with_reducible exact Ne.symm <| And.left (And.right (by assumption))) | (with_reducible exact Ne.symm <| And.left (And.right (And.right (by assumption)))) | (with_reducible exact Ne.symm <| And.left (And.right (And.right (And.right (by assumption))))) | (with_reducible exact Ne.symm <| And.left (And.right (And.right (And.right (And.right (by assumption)))))) | (with_reducible exact Ne.symm <| And.left (And.right (And.right (And.right (And.right (And.right (by assumption))))))) | (refine ne_gt ?_; k_extra "TL lt0") | (refine ne_lt ?_; k_extra "TL lt0"))
  k_with "TL le" => (first | (with_reducible assumption) | (with_reducible exact Nat.le_refl _) | (with_reducible exact Nat.succ_le_of_lt (by assumption)) | (with_reducible exact Nat.le_of_lt (by assumption)) | (with_reducible refine le_ss ?_; k_extra "TL le") | ((fail_if_success (with_reducible refine le_ss ?_)); with_reducible refine le_s ?_; k_extra "TL le") | ((fail_if_success (with_reducible refine le_s ?_)); refine le_t ?_ (by with_reducible assumption); k_extra "TL le") | ((fail_if_success (with_reducible refine le_s ?_)); refine le_t ?_ (Nat.le_of_lt (by with_reducible assumption)); k_extra "TL le"))
  k_with "TL mem" => (assumption)
  k_with "TL@ pyIter ref" => (k_extra "TL iter")
  k_with "TL@ exec For Name Name cons nil" => ((k_here; (rename Fr _ _ _ _ => lFq9'); (with_unfolding_all refine' For_invVF lFq9' ?k1 ?k2 ?_; (case k1 => exact rfl); (case k2 => exact rfl); k_whole)))
  k_with "TL@ exec For Name Tuple cons nil" => ((k_here; (rename Fr _ _ _ _ => lFq9'); (with_unfolding_all refine' For_invVF lFq9' ?k1 ?k2 ?_; (case k1 => exact rfl); (case k2 => exact rfl); k_whole)))
  k_with "TL@ TurnEnd next" => (k_extra "TL next")
  k_with "TL@ subscriptTail Name BinOp ref int" => (k_extra "TL row")
  k_with "TL@ binaryOp Mod int int" => (k_extra "TL mod")
  k_with "TL@ subscriptTail Name BinOp str int" => (k_extra "TL item")
  k_with "TL@ binaryOp Add str str" => (k_extra "TL add")
  k_with "TL@ call builtin:len cons nil" => (k_extra "TL len")
  intro dp un gd cn cs a ccd cl outer A₀ base h₀ L m s Q E B F X N T hk hdp hu hret
  refine wpAny_call ?_
  k_dflt cell_enter
  k_with "TL iter" => (k_dflt (refine' loop_list (vs := xs) (k := j) (beJ news ?beM0 (signs k)) ?hh ?F ?N ?hj (fun i m nw hh => hh.elim fun z hh => hh.elim fun t hh => hh.1 _ hH) ?turn ?done; (case hh => exact rfl); (case F => k_asm); (case N => k_asm); (case hj => (refine' ⟨_, _, fun _ h => h, ⟨rfl, ?e1⟩, ?e2, rfl, fun _ _ _ _ _ _ => rfl⟩; (case e1 => (intro c hc; exact absurd hc (List.not_mem_nil))); (case e2 => (intro q hq; rfl)))); (case' turn => (rintro i v m₁ nw h tk I oI hv ⟨z, tz, hb, hz, hev, e1, e2⟩ hn F' N' _ rfl; rw [be_map e1 e2] at F'; (obtain ⟨n, tn, rfl, hx0, hx1⟩ := ints_turn hI hns hv); (have r1 := hb _ hH); (have r2 := hb _ hR); (have hi4 : i < 4 := (by have := (List.getElem?_eq_some_iff.mp hv).1; rw [hI.length, h4] at this; exact this)))); (case' done => (rintro m₁ nw h tk ⟨z, tz, hb, hz, hev, e1, e2⟩ F' N'; rw [self_x m₁, be_map e1 e2] at F'))))
  k_with "TL iter" => (k_dflt (refine' be_inner (i := i) (q := n.fmod 3) ?bih ?biF ?biN hz hev ?bim hx0 hx1 ?biturn ?bidone; (case bih => exact rfl); (case biF => k_asm); (case biN => k_asm); (case bim => exact rfl); (case' biturn => (rintro i2 p tp m₁ nw2 h tk I2 oI2 hi2 hp0 hp1 ⟨z, tz, hb2, hz, hev, e1, e2⟩ hn2 F' N' _ rfl; rw [bi_map e1 e2] at F'; (have hzl : z.length ≤ 8 := (by have := hz.1; show z.cps.size ≤ 8; omega)); (have hkl := sg_len (n.fmod 3) hk0 hk2))); (case' bidone => (rintro m₁ nw2 h tk ⟨z, tz, hb2, hz, hev, e1, e2⟩ F' N'; rw [self_part m₁, bi_map e1 e2] at F'))))
  k_with "TL row" => (k_dflt (refine' item_row ?N ?hm ?h0 ?h3 ?_; (case N => k_asm); (case hm => k_mem); (case h0 => exact fmod_lo _ (by decide)); (case h3 => exact fmod_hi _ (by decide)); intro t'))
  k_with "TL len" => (k_dflt (refine' len_str ?hfit ?_; (case hfit => omega)))
  k_with "TL mod" => (k_dflt (refine' mod_int ?hb ?_; (case hb => omega)))
  k_with "TL item" => (k_dflt (refine' item_sg hkl ?_; intro c tc' tkc' hc))
  k_with "TL add" => (k_dflt (refine' PySem.SB.add (hsz := ?hsz) ?_; (case hsz => ((have q1 := Txt.slice_le z none (some ((p.fdiv 4).fmod (↑z.length + 1)))); (have q2 := Txt.slice_le z (some ((p.fdiv 4).fmod (↑z.length + 1))) none); (have q3 : (⟨#[c]⟩ : Str).length = 1 := rfl); (try rw [Str.length_append]); rw [sizeLine_eq]; omega)); intro t' k'))
  k_with "TL next" => (k_dflt (refine' be_nextO (z := z) ?nF ?nN (fun p hp => hb2 p (.tail _ hp)) hn hb hz (fun q' hq' => (hev q' hq').trans (by split <;> rfl)) ?nr ?n5; (case nF => k_asm); (case nN => k_asm); (case nr => exact rfl); (case n5 => (intro y e1 e2 e3 e4 e5; simp only [e1, e2, e3, e4, e5, if_false]))))
  k_with "TL next" => (k_dflt ((have hbo := be_ins (pl := (p.fdiv 4).fmod (↑z.length + 1)) hk0 hk2 (fmod_lo _ (by decide)) (fmod_hi _ (by decide)) hz (Int.fmod_nonneg_of_pos _ (by omega)) (by have := Int.fmod_lt_of_pos (p.fdiv 4) (b := (z.length : Int) + 1) (by omega); omega) hc hev); refine' be_nextI ?nF ?nN hn2 hb2 hbo ?nr ?n5; (case nF => k_asm); (case nN => k_asm); (case nr => exact rfl); (case n5 => (intro y e1 e2 e3; simp only [e1, e2, e3, if_false]))))
  w_strict (k_steps; all_goals first
    | exact hret _ _ _ _ (by assumption) (news_sub (by assumption) hb) (by rw [hI.length, h4] at hz; exact hz) hev)
end TL
end

section
open PySem PySem.W PySem.Spec PySem.Calls PyProof.Rows
set_option maxRecDepth 100000
set_option maxHeartbeats 8000000
namespace TL
/-- `if c in text: text = text.replace(c, y)` -/
def escOne (c y z : Str) : Str := if (Builtin.Str.occurrences z c 0 z.length 1).isEmpty then z else Txt.replace z c y
def EscEnd (h₀ : Heap) (L : Addr) (news : List (Addr × Obj)) (m : Str → Option Value) (v : Str) (s : Shared) (f : Flow) (s₂ : Shared) : Prop :=
  f = .next ∧ ∃ h' tk' t', s₂ = { s with heap := h', toks := tk' } ∧ tk' ≠ 0 ∧ Fr h₀ L h' (fun y => if y = Str.ofString "text" then some (.str v t') else m y) ∧ News h₀ L h' news
abbrev flat (c : Nat) (z : List Nat) (l : List Nat) : List Nat := l.flatMap fun d => if d = c then z else [d]
theorem flat_free {c : Nat} {z : List Nat} : ∀ {l : List Nat}, c ∉ l → flat c z l = l
  | [], _ => rfl
  | k :: r, h => by
    have h1 : ¬ k = c := fun e => h (e ▸ List.mem_cons_self ..)
    have h2 : c ∉ r := fun m => h (List.mem_cons_of_mem _ m)
    show (if k = c then z else [k]) ++ flat c z r = k :: r
    rw [if_neg h1, flat_free h2]; rfl
theorem flat_join (c : Nat) (z : Str) : ∀ parts : List Str, (∀ p ∈ parts, c ∉ p.cps.toList) → flat c z.cps.toList (Str.join ⟨#[c]⟩ parts).cps.toList = (Str.join z parts).cps.toList
  | [], _ => rfl
  | [p], h => flat_free (h p (List.mem_singleton.mpr rfl))
  | p :: q :: r, h => by
    have ih := flat_join c z (q :: r) fun a ha => h a (List.mem_cons_of_mem _ ha)
    show flat c z.cps.toList (p ++ ⟨#[c]⟩ ++ Str.join ⟨#[c]⟩ (q :: r)).cps.toList = (p ++ z ++ Str.join z (q :: r)).cps.toList
    simp only [Str.cps_append, Array.toList_append]
    show List.flatMap _ (p.cps.toList ++ [c] ++ _) = _
    rw [List.flatMap_append, List.flatMap_append]
    show flat c z.cps.toList p.cps.toList ++ _ ++ flat c z.cps.toList _ = _
    rw [ih, flat_free (h p (List.mem_cons_self ..))]
    simp
theorem rep_flat (x z : Str) (c : Nat) : (Txt.replace x ⟨#[c]⟩ z).cps.toList = flat c z.cps.toList x.cps.toList := by
  rw [StrLaws.replace_one, ← flat_join c z _ (StrLaws.split_free x c), StrLaws.join_split]
theorem escOne_flat (x z : Str) (c : Nat) : (escOne ⟨#[c]⟩ z x).cps.toList = flat c z.cps.toList x.cps.toList := by
  unfold escOne
  split
  · rename_i h
    have := StrLaws.found_one x c
    rw [h] at this
    rw [flat_free]
    intro hc
    rw [decide_eq_true hc] at this
    exact absurd this (by decide)
  · exact rep_flat x z c
theorem flat_len {c : Nat} {y : List Nat} (hy : y.length ≤ 6) : ∀ l : List Nat, (flat c y l).length ≤ 6 * l.length
  | [] => Nat.le_refl _
  | k :: r => by
    have ih := flat_len (c := c) hy r
    show ((if k = c then y else [k]) ++ flat c y r).length ≤ _
    rw [List.length_append, List.length_cons]
    split
    · omega
    · show 1 + _ ≤ _; omega
theorem one_sign {c : Str} (h : c.length = 1) : ∃ k, c = ⟨#[k]⟩ := by
  obtain ⟨⟨l⟩⟩ := c
  match l, h with
  | [k], _ => exact ⟨k, rfl⟩
theorem escOne_len {c y z : Str} {B : Nat} (hc : c.length = 1) (hy : y.length ≤ 6) (hB : z.length ≤ B) : (escOne c y z).length ≤ 6 * B := by
  obtain ⟨k, rfl⟩ := one_sign hc
  have h := flat_len (c := k) (y := y.cps.toList) (by rw [Array.length_toList]; exact hy) z.cps.toList
  rw [← escOne_flat z y k, Array.length_toList, Array.length_toList] at h
  have e1 : z.length = z.cps.size := rfl
  have e2 : (escOne ⟨#[k]⟩ y z).length = (escOne ⟨#[k]⟩ y z).cps.size := rfl
  omega
section
variable {M : Model} {A : Around} {env : Env} {E : Value → Shared → Prop} {s : Shared} {Q : Flow → Shared → Prop} {h₀ : Heap} {L : Addr} {m : Str → Option Value} {news : List (Addr × Obj)} {x c y z : Str} {k0 k1 k2 : Tok} {p0 p1 p2 p3 p4 p5 p6 p7 p8 p9 p10 : Pos} {t : Tok}
theorem esc_in {P : Sem Flow} {v : Str} {s₀ : Shared} (h : wpAny M A P (EscEnd h₀ L news m v s₀) E s) : wpAny M A P (EscEnd h₀ L news m v s₀) E s := h
end
theorem replaceP {prog : Program} {w : World} {A : Around} {E : Value → Shared → Prop} {s : Shared} {x y z : Str} {t u v : Tok} {Q : Value → Shared → Prop} (hu : u ≠ 0) (hv : v ≠ 0) (huv : u ≠ v) (hyz : (y == z) = false) (hb : x.length + (x.length + 1) * z.length ≤ 16777216)
    (hq : ∀ t' k, s.toks ≤ k → Q (.str (Txt.replace x y z) t') { s with toks := k }) : wpAny (model prog w) A (call (.builtin "str.replace") [.str x t, .str y u, .str z v]) Q E s := by
  have e : (2 : Nat) ^ 24 = 16777216 := by decide
  have hl : Builtin.Str.tooLong (x.length + (Builtin.Str.occurrences x y 0 x.length (x.length + 1)).length * z.length) = false := by
    have h1 := StrLaws.occ_length_le x y 0 x.length (x.length + 1)
    have h2 : (Builtin.Str.occurrences x y 0 x.length (x.length + 1)).length * z.length ≤ (x.length + 1) * z.length := Nat.mul_le_mul_right _ h1
    unfold Builtin.Str.tooLong sizeLine
    exact decide_eq_false (by omega)
  refine call_gives PySem.F.slot_str_replace (typeIs_str _ _ _) PySem.F.entry_str_replace (PySem.F.args_str_replace_3 _ _ _)
    (gives_str_replace x y z t u v fun _ => ⟨by simp [hu, hv], by simp [huv], hyz, hl⟩) ?_
  have hq' := hq
  unfold Txt.replace at hq'
  cases hc : ((Builtin.Str.occurrences x y 0 x.length (x.length + 1)).isEmpty || (y.length == 0 && z.length == 0))
  · rw [hc] at hq'
    simp only [Bool.false_eq_true, if_false] at hq' ⊢
    exact ⟨fits_replaced y hb, hq' _ _ (Nat.le_succ _)⟩
  · rw [hc] at hq'
    simp only [if_true] at hq' ⊢
    exact hq' t s.toks (Nat.le_refl _)
theorem rep_room {z y : Str} {B : Nat} (hz : z.length ≤ B) (hy : y.length ≤ 6) (hB : B + (B + 1) * 6 ≤ 16777216) : z.length + (z.length + 1) * y.length ≤ 16777216 := by
  have h1 := Nat.mul_le_mul (Nat.succ_le_succ hz) hy
  exact Nat.le_trans (Nat.add_le_add hz h1) hB
theorem esc_cut {M : Model} {A : Around} {env : Env} {E : Value → Shared → Prop} {s : Shared} {Q : Flow → Shared → Prop} {h₀ : Heap} {L : Addr} {m : Str → Option Value} {news : List (Addr × Obj)} {c y z : Str} {k0 k1 k2 : Nat} {p0 p1 p2 p3 p4 p5 p6 p7 p8 p9 p10 : Pos} {t : Tok}
    (F : Fr h₀ L s.heap m) (N : News h₀ L s.heap news) (hm : m (Str.ofString "text") = some (.str z t)) (h0 : s.toks ≠ 0) {B : Nat} (hc : c.length = 1) (hy : y.length ≤ 6) (hB : z.length ≤ B)
    (h1 : wpAny M A (exec (.If (.Compare (.Constant (.str c) k0 p0) [.In] [.Name (Str.ofString "text") p1] p2) [.Assign [.Name (Str.ofString "text") p3] (.Call (.Attribute (.Name (Str.ofString "text") p4) (Str.ofString "replace") p5) [.Constant (.str c) k1 p6, .Constant (.str y) k2 p7] [] p8) p9] [] p10) env) (EscEnd h₀ L news m (escOne c y z) s) E s)
    (h2 : ∀ h' tk' t', tk' ≠ 0 → (escOne c y z).length ≤ 6 * B → Fr h₀ L h' (fun x => if x = Str.ofString "text" then some (.str (escOne c y z) t') else m x) → News h₀ L h' news → Q .next { s with heap := h', toks := tk' }) :
    wpAny M A (exec (.If (.Compare (.Constant (.str c) k0 p0) [.In] [.Name (Str.ofString "text") p1] p2) [.Assign [.Name (Str.ofString "text") p3] (.Call (.Attribute (.Name (Str.ofString "text") p4) (Str.ofString "replace") p5) [.Constant (.str c) k1 p6, .Constant (.str y) k2 p7] [] p8) p9] [] p10) env) Q E s := by
  refine wpAny_mono h1 (fun f s₂ hq => ?_) fun _ _ e => e
  obtain ⟨rfl, h', tk', t', rfl, h0', F', N'⟩ := hq
  exact h2 h' tk' t' h0' (escOne_len hc hy hB) F' N'
theorem esc_no {h₀ h' : Heap} {L : Addr} {m : Str → Option Value} {news : List (Addr × Obj)} {c y z : Str} {s : Shared} {t : Tok} {tk' : Nat} (F : Fr h₀ L h' m) (N : News h₀ L h' news) (hm : m (Str.ofString "text") = some (.str z t)) (h : (Builtin.Str.occurrences z c 0 z.length 1).isEmpty = true) (h0 : tk' ≠ 0) :
    EscEnd h₀ L news m (escOne c y z) s .next { s with heap := h', toks := tk' } := by
  refine ⟨rfl, h', tk', t, rfl, h0, ?_, N⟩
  rw [escOne, if_pos h]
  have e : (fun x => if x = Str.ofString "text" then some (Value.str z t) else m x) = m := by
    funext x
    by_cases e0 : x = Str.ofString "text"
    · rw [if_pos e0, e0, hm]
    rw [if_neg e0]
  rw [e]; exact F
theorem esc_yes {h₀ h' : Heap} {L : Addr} {m : Str → Option Value} {news : List (Addr × Obj)} {c y z : Str} {s : Shared} {t : Tok} {tk' : Nat} (F : Fr h₀ L h' (fun x => if x = Str.ofString "text" then some (.str (Txt.replace z c y) t) else m x)) (N : News h₀ L h' news) (h : (Builtin.Str.occurrences z c 0 z.length 1).isEmpty = false) (h0 : tk' ≠ 0) :
    EscEnd h₀ L news m (escOne c y z) s .next { s with heap := h', toks := tk' } := by
  refine ⟨rfl, h', tk', t, rfl, h0, ?_, N⟩
  rw [escOne, if_neg (by rw [h]; exact Bool.false_ne_true)]
  exact F
def escH (z : Str) : Str := escOne (Str.ofString "\"") (Str.ofString "&quot;") (escOne (Str.ofString ">") (Str.ofString "&gt;") (escOne (Str.ofString "&") (Str.ofString "&amp;") z))
def escA (z : Str) : Str := escOne (Str.ofString "\t") (Str.ofString "&#09;") (escOne (Str.ofString "\n") (Str.ofString "&#10;") (escOne (Str.ofString "\r") (Str.ofString "&#13;") (escOne (Str.ofString "\"") (Str.ofString "&quot;") (escOne (Str.ofString ">") (Str.ofString "&gt;") (escOne (Str.ofString "<") (Str.ofString "&lt;") (escOne (Str.ofString "&") (Str.ofString "&amp;") z))))))
def escC (z : Str) : Str := escOne (Str.ofString "\r") (Str.ofString "&#xD;") (escOne (Str.ofString "\n") (Str.ofString "&#xA;") (escOne (Str.ofString "\t") (Str.ofString "&#x9;") (escOne (Str.ofString "\"") (Str.ofString "&quot;") (escOne (Str.ofString "<") (Str.ofString "&lt;") (escOne (Str.ofString "&") (Str.ofString "&amp;") z)))))
abbrev RetS (news : List (Addr × Obj)) (z : Str) : Heap → Addr → (Str → Option Value) → Shared → (Value → Shared → Prop) → Prop :=
  fun h₀ L m s Q => ∀ (t : Tok) (h' : Heap) (tk' : Nat), Fr h₀ L h' m → News h₀ L h' news → Q (.str z t) { s with heap := h', toks := tk' }
theorem html_con (w : World) (mean : ExcName → Option Value) (mg mb : Str → Option Value) (news : List (Addr × Obj)) (z : Str) (t : Tok) (hz : z.length ≤ 8) :
   Con w mean mg mb 143 3 news [.str z t] (RetS news (escH z)) := by
  unfold Con
  k_fill
  w_top on
  w_on
  k_with_none
  k_with "TL lt0" => (first | (with_reducible assumption) | (refine lt_t ?_ (by with_reducible assumption); k_extra "TL lt0") | (with_reducible exact And.left (by assumption)) | (with_reducible exact And.left (And.right (by assumption))) | (with_reducible exact And.left (And.right (And.right (by assumption)))) | (with_reducible exact And.left (And.right (And.right (And.right (by assumption))))) | (with_reducible exact And.left (And.right (And.right (And.right (And.right (by assumption)))))) | (with_reducible exact And.left (And.right (And.right (And.right (And.right (And.right (by assumption))))))) | (with_reducible exact And.left (And.right (And.right (And.right (And.right (And.right (And.right (by assumption)))))))) | (with_reducible exact And.left (And.right (And.right (And.right (And.right (And.right (And.right (And.right (by assumption))))))))) | (with_reducible exact And.left (And.right (And.right (And.right (And.right (And.right (And.right (And.right (And.right (by assumption)))))))))) | (with_reducible exact And.left (And.right (And.right (And.right (And.right (And.right (And.right (And.right (And.right (And.right (by assumption))))))))))) | (with_reducible exact And.left (And.right (And.right (And.right (And.right (And.right (And.right (And.right (And.right (And.right (And.right (by assumption)))))))))))) | (with_reducible exact And.left (And.right (And.right (And.right (And.right (And.right (And.right (And.right (And.right (And.right (And.right (And.right (by assumption))))))))))))) | (with_reducible exact And.left (And.right (And.right (And.right (And.right (And.right (And.right (And.right (And.right (And.right (And.right (And.right (And.right (by assumption)))))))))))))) | (with_reducible exact And.left (And.right (And.right (And.right (And.right (And.right (And.right (And.right (And.right (And.right (And.right (And.right (And.right (And.right (by assumption))))))))))))))) | (with_reducible exact And.left (And.right (And.right (And.right (And.right (And.right (And.right (And.right (And.right (And.right (And.right (And.right (And.right (And.right (And.right (by assumption)))))))))))))))) | (with_reducible exact And.left (And.right (And.right (And.right (And.right (And.right (And.right (And.right (And.right (And.right (And.right (And.right (And.right (And.right (And.right (And.right (by assumption))))))))))))))))) | (with_reducible exact And.left (And.right (And.right (And.right (And.right (And.right (And.right (And.right (And.right (And.right (And.right (And.right (And.right (And.right (And.right (And.right (And.right (by assumption)))))))))))))))))) | (with_reducible exact And.left (And.right (And.right (And.right (And.right (And.right (And.right (And.right (And.right (And.right (And.right (And.right (And.right (And.right (And.right (And.right (And.right (And.right (by assumption))))))))))))))))))) | (with_reducible exact And.left (And.right (And.right (And.right (And.right (And.right (And.right (And.right (And.right (And.right (And.right (And.right (And.right (And.right (And.right (And.right (And.right (And.right (And.right (by assumption)))))))))))))))))))) | (with_reducible exact And.left (And.right (And.right (And.right (And.right (And.right (And.right (And.right (And.right (And.right (And.right (And.right (And.right (And.right (And.right (And.right (And.right (And.right (And.right (And.right (by assumption))))))))))))))))))))) | (with_reducible exact And.left (And.right (And.right (And.right (And.right (And.right (And.right (And.right (And.right (And.right (And.right (And.right (And.right (And.right (And.right (And.right (And.right (And.right (And.right (And.right (And.right (by assumption)))))))))))))))))))))) | (with_reducible exact And.left (And.right (And.right (And.right (And.right (And.right (And.right (And.right (And.right (And.right (And.right (And.right (And.right (And.right (And.right (And.right (And.right (And.right (And.right (And.right (And.right (And.right (by assumption))))))))))))))))))))))) | (with_reducible exact And.left (And.right (And.right (And.right (And.right (And.right (And.right (And.right (And.right (And.right (And.right (And.right (And.right (And.right (And.right (And.right (And.right (And.right (And.right (And.right (And.right (And.right (And.right (by assumption)))))))))))))))))))))))) | (with_reducible exact And.left (And.right (And.right (And.right (And.right (And.right (And.right (And.right (And.right (And.right (And.right (And.right (And.right (And.right (And.right (And.right (And.right (And.right (And.right (And.right (And.right (And.right (And.right (And.right (by assumption))))))))))))))))))))))))) | (with_reducible exact And.right (by assumption)) | (with_reducible exact And.right (And.right (by assumption))) | (with_reducible exact And.right (And.right (And.right (by assumption)))) | (with_reducible exact And.right (And.right (And.right (And.right (by assumption))))) | (with_reducible exact And.right (And.right (And.right (And.right (And.right (by assumption)))))) | (with_reducible exact And.right (And.right (And.right (And.right (And.right (And.right (by assumption))))))) | (with_reducible exact And.right (And.right (And.right (And.right (And.right (And.right (And.right (by assumption)))))))) | (with_reducible exact And.right (And.right (And.right (And.right (And.right (And.right (And.right (And.right (by assumption))))))))) | (with_reducible exact And.right (And.right (And.right (And.right (And.right (And.right (And.right (And.right (And.right (by assumption)))))))))) | (with_reducible exact And.right (And.right (And.right (And.right (And.right (And.right (And.right (And.right (And.right (And.right (by assumption))))))))))) | (with_reducible exact And.right (And.right (And.right (And.right (And.right (And.right (And.right (And.right (And.right (And.right (And.right (by assumption)))))))))))) | (with_reducible exact And.right (And.right (And.right (And.right (And.right (And.right (And.right (And.right (And.right (And.right (And.right (And.right (by assumption))))))))))))) | (with_reducible exact And.right (And.right (And.right (And.right (And.right (And.right (And.right (And.right (And.right (And.right (And.right (And.right (And.right (by assumption)))))))))))))) | (with_reducible exact And.right (And.right (And.right (And.right (And.right (And.right (And.right (And.right (And.right (And.right (And.right (And.right (And.right (And.right (by assumption))))))))))))))) | (with_reducible exact And.right (And.right (And.right (And.right (And.right (And.right (And.right (And.right (And.right (And.right (And.right (And.right (And.right (And.right (And.right (by assumption)))))))))))))))) | (with_reducible exact And.right (And.right (And.right (And.right (And.right (And.right (And.right (And.right (And.right (And.right (And.right (And.right (And.right (And.right (And.right (And.right (by assumption))))))))))))))))) | (with_reducible exact And.right (And.right (And.right (And.right (And.right (And.right (And.right (And.right (And.right (And.right (And.right (And.right (And.right (And.right (And.right (And.right (And.right (by assumption)))))))))))))))))) | (with_reducible exact And.right (And.right (And.right (And.right (And.right (And.right (And.right (And.right (And.right (And.right (And.right (And.right (And.right (And.right (And.right (And.right (And.right (And.right (by assumption))))))))))))))))))) | (with_reducible exact And.right (And.right (And.right (And.right (And.right (And.right (And.right (And.right (And.right (And.right (And.right (And.right (And.right (And.right (And.right (And.right (And.right (And.right (And.right (by assumption)))))))))))))))))))) | (with_reducible exact And.right (And.right (And.right (And.right (And.right (And.right (And.right (And.right (And.right (And.right (And.right (And.right (And.right (And.right (And.right (And.right (And.right (And.right (And.right (And.right (by assumption))))))))))))))))))))) | (with_reducible exact And.right (And.right (And.right (And.right (And.right (And.right (And.right (And.right (And.right (And.right (And.right (And.right (And.right (And.right (And.right (And.right (And.right (And.right (And.right (And.right (And.right (by assumption)))))))))))))))))))))) | (with_reducible exact And.right (And.right (And.right (And.right (And.right (And.right (And.right (And.right (And.right (And.right (And.right (And.right (And.right (And.right (And.right (And.right (And.right (And.right (And.right (And.right (And.right (And.right (by assumption))))))))))))))))))))))) | (with_reducible exact And.right (And.right (And.right (And.right (And.right (And.right (And.right (And.right (And.right (And.right (And.right (And.right (And.right (And.right (And.right (And.right (And.right (And.right (And.right (And.right (And.right (And.right (And.right (by assumption)))))))))))))))))))))))))
  k_with "TL ne0" => (refine neN ?_; (try dsimp only); first | (with_reducible assumption) | (refine Ne.symm ?_; with_reducible assumption) | (with_reducible exact And.left (by assumption)) | (with_reducible exact And.left (And.right (by assumption))) | (with_reducible exact And.left (And.right (And.right (by assumption)))) | (with_reducible exact And.left (And.right (And.right (And.right (by assumption))))) | (with_reducible exact And.left (And.right (And.right (And.right (And.right (by assumption)))))) | (with_reducible exact And.left (And.right (And.right (And.right (And.right (And.right (by assumption))))))) | (with_reducible exact Ne.symm <| And.left (by assumption)) | (with_reducible exact Ne.symm <| And.left (And.right (by assumption))) | (with_reducible exact Ne.symm <| And.left (And.right (And.right (by assumption)))) | (with_reducible exact Ne.symm <| And.left (And.right (And.right (And.right (by assumption))))) | (with_reducible exact Ne.symm <| And.left (And.right (And.right (And.right (And.right (by assumption)))))) | (with_reducible exact Ne.symm <| And.left (And.right (And.right (And.right (And.right (And.right (by assumption))))))) | (refine ne_gt ?_; k_extra "TL lt0") | (refine ne_lt ?_; k_extra "TL lt0"))
  k_with "TL le" => (first | (with_reducible assumption) | (with_reducible exact Nat.le_refl _) | (with_reducible exact Nat.succ_le_of_lt (by assumption)) | (with_reducible exact Nat.le_of_lt (by assumption)) | (with_reducible refine le_ss ?_; k_extra "TL le") | ((fail_if_success (with_reducible refine le_ss ?_)); with_reducible refine le_s ?_; k_extra "TL le") | ((fail_if_success (with_reducible refine le_s ?_)); refine le_t ?_ (by with_reducible assumption); k_extra "TL le") | ((fail_if_success (with_reducible refine le_s ?_)); refine le_t ?_ (Nat.le_of_lt (by with_reducible assumption)); k_extra "TL le"))
  k_with "TL@ exec If Compare cons nil" => (k_extra "TL if")
  k_with "TL@ execs nil" => ((k_here; refine wpAny_execs_nil ?_))
  k_with "TL@ execs cons Assign nil" => ((k_here; (with_reducible refine wpAny_execs_cons ?_); try dsimp only))
  k_with "TL@ EscEnd next" => (k_extra "TL next")
  k_with "TL@ call builtin:str.replace nil" => (k_extra "TL rep")
  intro dp un gd cn cs a ccd cl outer A₀ base h₀ L m s Q E B F X N T hk hdp hu hret
  refine wpAny_call ?_
  k_dflt (refine' code_def ?k1 ?k2 ?k3 ?k4 ?k5 ?kA ?kF ?kK ?k6 ?k7 ?k8 ?k9 ?kB ?_ ?c2 ?c3 ?c4 ?c5; (case kA => exact rfl); (case kF => exact rfl); (case kK => assumption); (case k1 => k_asm); (case k2 => k_asm); (case k3 => k_asm); (case k4 => k_asm); (case k5 => k_asm); (case k6 => k_is); (case k7 => k_is); (case k8 => ktr_room); (case k9 => exact BindsTo.of_eq rfl); (case c5 => decide); (case kB => exact locs rfl); (case c2 => exact rfl); (case c3 => exact rfl); (case c4 => exact rfl); k_whole; intro g' L' h' FG' F' N' B' X' T'; (try dsimp only); (try k_lift B'); (try k_fold))
  generalize htk : HAdd.hAdd s.toks (List.length _) = tk
  have htk0 : tk ≠ 0 := by rw [← htk]; exact Nat.succ_ne_zero _
  clear htk
  k_with "TL if" => ((fail_if_success (with_reducible refine esc_in ?_)); k_dflt (refine esc_cut (by k_asm) (by k_asm) rfl (by assumption) (by decide) (by decide) (by assumption) ?_ ?_; rotate_left; (intro h' tk' t' htk' hzl F' N'); rotate_left))
  k_with "TL rep" => (k_dflt ((try dsimp only [List.nil_append, List.cons_append]); refine replaceP (by first | exact Nat.succ_ne_zero _ | assumption | ((try dsimp only); omega)) (by first | exact Nat.succ_ne_zero _ | ((try dsimp only); omega)) (by first | exact Nat.ne_of_lt (Nat.lt_succ_self _) | ((try dsimp only); omega)) (by decide) (rep_room (by assumption) (by decide) (by decide)) ?_; intro t' k' hk'))
  k_with "TL next" => (k_dflt (first | exact esc_no (by k_asm) (by k_asm) rfl (by assumption) (by (try dsimp only); omega) | exact esc_yes (by k_asm) (by k_asm) (by assumption) (by (try dsimp only at hk'); omega)))
  w_strict (k_steps; all_goals first
    | exact hret _ _ _ (by assumption) (by assumption))
theorem attrib_con (w : World) (mean : ExcName → Option Value) (mg mb : Str → Option Value) (news : List (Addr × Obj)) (z : Str) (t : Tok) (hz : z.length ≤ 8) :
   Con w mean mg mb 136 3 news [.str z t] (RetS news (escA z)) := by
  unfold Con
  k_fill
  w_top on
  w_on
  k_with_none
  k_with "TL lt0" => (first | (with_reducible assumption) | (refine lt_t ?_ (by with_reducible assumption); k_extra "TL lt0") | (with_reducible exact And.left (by assumption)) | (with_reducible exact And.left (And.right (by assumption))) | (with_reducible exact And.left (And.right (And.right (by assumption)))) | (with_reducible exact And.left (And.right (And.right (And.right (by assumption))))) | (with_reducible exact And.left (And.right (And.right (And.right (And.right (by assumption)))))) | (with_reducible exact And.left (And.right (And.right (And.right (And.right (And.right (by assumption))))))) | (with_reducible exact And.left (And.right (And.right (And.right (And.right (And.right (And.right (by assumption)))))))) | (with_reducible exact And.left (And.right (And.right (And.right (And.right (And.right (And.right (And.right (by assumption))))))))) | (with_reducible exact And.left (And.right (And.right (And.right (And.right (And.right (And.right (And.right (And.right (by assumption)))))))))) | (with_reducible exact And.left (And.right (And.right (And.right (And.right (And.right (And.right (And.right (And.right (And.right (by assumption))))))))))) | (with_reducible exact And.left (And.right (And.right (And.right (And.right (And.right (And.right (And.right (And.right (And.right (And.right (by assumption)))))))))))) | (with_reducible exact And.left (And.right (And.right (And.right (And.right (And.right (And.right (And.right (And.right (And.right (And.right (And.right (by assumption))))))))))))) | (with_reducible exact And.left (And.right (And.right (And.right (And.right (And.right (And.right (And.right (And.right (And.right (And.right (And.right (And.right (by assumption)))))))))))))) | (with_reducible exact And.left (And.right (And.right (And.right (And.right (And.right (And.right (And.right (And.right (And.right (And.right (And.right (And.right (And.right (by assumption))))))))))))))) | (with_reducible exact And.left (And.right (And.right (And.right (And.right (And.right (And.right (And.right (And.right (And.right (And.right (And.right (And.right (And.right (And.right (by assumption)))))))))))))))) | (with_reducible exact And.left (And.right (And.right (And.right (And.right (And.right (And.right (And.right (And.right (And.right (And.right (And.right (And.right (And.right (And.right (And.right (by assumption))))))))))))))))) | (with_reducible exact And.left (And.right (And.right (And.right (And.right (And.right (And.right (And.right (And.right (And.right (And.right (And.right (And.right (And.right (And.right (And.right (And.right (by assumption)))))))))))))))))) | (with_reducible exact And.left (And.right (And.right (And.right (And.right (And.right (And.right (And.right (And.right (And.right (And.right (And.right (And.right (And.right (And.right (And.right (And.right (And.right (by assumption))))))))))))))))))) | (with_reducible exact And.left (And.right (And.right (And.right (And.right (And.right (And.right (And.right (And.right (And.right (And.right (And.right (And.right (And.right (And.right (And.right (And.right (And.right (And.right (by assumption)))))))))))))))))))) | (with_reducible exact And.left (And.right (And.right (And.right (And.right (And.right (And.right (And.right (And.right (And.right (And.right (And.right (And.right (And.right (And.right (And.right (And.right (And.right (And.right (And.right (by assumption))))))))))))))))))))) | (with_reducible exact And.left (And.right (And.right (And.right (And.right (And.right (And.right (And.right (And.right (And.right (And.right (And.right (And.right (And.right (And.right (And.right (And.right (And.right (And.right (And.right (And.right (by assumption)))))))))))))))))))))) | (with_reducible exact And.left (And.right (And.right (And.right (And.right (And.right (And.right (And.right (And.right (And.right (And.right (And.right (And.right (And.right (And.right (And.right (And.right (And.right (And.right (And.right (And.right (And.right (by assumption))))))))))))))))))))))) | (with_reducible exact And.left (And.right (And.right (And.right (And.right (And.right (And.right (And.right (And.right (And.right (And.right (And.right (And.right (And.right (And.right (And.right (And.right (And.right (And.right (And.right (And.right (And.right (And.right (by assumption)))))))))))))))))))))))) | (with_reducible exact And.left (And.right (And.right (And.right (And.right (And.right (And.right (And.right (And.right (And.right (And.right (And.right (And.right (And.right (And.right (And.right (And.right (And.right (And.right (And.right (And.right (And.right (And.right (And.right (by assumption))))))))))))))))))))))))) | (with_reducible exact And.right (by assumption)) | (with_reducible exact And.right (And.right (by assumption))) | (with_reducible exact And.right (And.right (And.right (by assumption)))) | (with_reducible exact And.right (And.right (And.right (And.right (by assumption))))) | (with_reducible exact And.right (And.right (And.right (And.right (And.right (by assumption)))))) | (with_reducible exact And.right (And.right (And.right (And.right (And.right (And.right (by assumption))))))) | (with_reducible exact And.right (And.right (And.right (And.right (And.right (And.right (And.right (by assumption)))))))) | (with_reducible exact And.right (And.right (And.right (And.right (And.right (And.right (And.right (And.right (by assumption))))))))) | (with_reducible exact And.right (And.right (And.right (And.right (And.right (And.right (And.right (And.right (And.right (by assumption)))))))))) | (with_reducible exact And.right (And.right (And.right (And.right (And.right (And.right (And.right (And.right (And.right (And.right (by assumption))))))))))) | (with_reducible exact And.right (And.right (And.right (And.right (And.right (And.right (And.right (And.right (And.right (And.right (And.right (by assumption)))))))))))) | (with_reducible exact And.right (And.right (And.right (And.right (And.right (And.right (And.right (And.right (And.right (And.right (And.right (And.right (by assumption))))))))))))) | (with_reducible exact And.right (And.right (And.right (And.right (And.right (And.right (And.right (And.right (And.right (And.right (And.right (And.right (And.right (by assumption)))))))))))))) | (with_reducible exact And.right (And.right (And.right (And.right (And.right (And.right (And.right (And.right (And.right (And.right (And.right (And.right (And.right (And.right (by assumption))))))))))))))) | (with_reducible exact And.right (And.right (And.right (And.right (And.right (And.right (And.right (And.right (And.right (And.right (And.right (And.right (And.right (And.right (And.right (by assumption)))))))))))))))) | (with_reducible exact And.right (And.right (And.right (And.right (And.right (And.right (And.right (And.right (And.right (And.right (And.right (And.right (And.right (And.right (And.right (And.right (by assumption))))))))))))))))) | (with_reducible exact And.right (And.right (And.right (And.right (And.right (And.right (And.right (And.right (And.right (And.right (And.right (And.right (And.right (And.right (And.right (And.right (And.right (by assumption)))))))))))))))))) | (with_reducible exact And.right (And.right (And.right (And.right (And.right (And.right (And.right (And.right (And.right (And.right (And.right (And.right (And.right (And.right (And.right (And.right (And.right (And.right (by assumption))))))))))))))))))) | (with_reducible exact And.right (And.right (And.right (And.right (And.right (And.right (And.right (And.right (And.right (And.right (And.right (And.right (And.right (And.right (And.right (And.right (And.right (And.right (And.right (by assumption)))))))))))))))))))) | (with_reducible exact And.right (And.right (And.right (And.right (And.right (And.right (And.right (And.right (And.right (And.right (And.right (And.right (And.right (And.right (And.right (And.right (And.right (And.right (And.right (And.right (by assumption))))))))))))))))))))) | (with_reducible exact And.right (And.right (And.right (And.right (And.right (And.right (And.right (And.right (And.right (And.right (And.right (And.right (And.right (And.right (And.right (And.right (And.right (And.right (And.right (And.right (And.right (by assumption)))))))))))))))))))))) | (with_reducible exact And.right (And.right (And.right (And.right (And.right (And.right (And.right (And.right (And.right (And.right (And.right (And.right (And.right (And.right (And.right (And.right (And.right (And.right (And.right (And.right (And.right (And.right (by assumption))))))))))))))))))))))) | (with_reducible exact And.right (And.right (And.right (And.right (And.right (And.right (And.right (And.right (And.right (And.right (And.right (And.right (And.right (And.right (And.right (And.right (And.right (And.right (And.right (And.right (And.right (And.right (And.right (by assumption)))))))))))))))))))))))))
  k_with "TL ne0" => (refine neN ?_; (try dsimp only); first | (with_reducible assumption) | (refine Ne.symm ?_; with_reducible assumption) | (with_reducible exact And.left (by assumption)) | (with_reducible exact And.left (And.right (by assumption))) | (with_reducible exact And.left (And.right (And.right (by assumption)))) | (with_reducible exact And.left (And.right (And.right (And.right (by assumption))))) | (with_reducible exact And.left (And.right (And.right (And.right (And.right (by assumption)))))) | (with_reducible exact And.left (And.right (And.right (And.right (And.right (And.right (by assumption))))))) | (with_reducible exact Ne.symm <| And.left (by assumption)) | (with_reducible exact Ne.symm <| And.left (And.right (by assumption))) | (with_reducible exact Ne.symm <| And.left (And.right (And.right (by assumption)))) | (with_reducible exact Ne.symm <| And.left (And.right (And.right (And.right (by assumption))))) | (with_reducible exact Ne.symm <| And.left (And.right (And.right (And.right (And.right (by assumption)))))) | (with_reducible exact Ne.symm <| And.left (And.right (And.right (And.right (And.right (And.right (by assumption))))))) | (refine ne_gt ?_; k_extra "TL lt0") | (refine ne_lt ?_; k_extra "TL lt0"))
  k_with "TL le" => (first | (with_reducible assumption) | (with_reducible exact Nat.le_refl _) | (with_reducible exact Nat.succ_le_of_lt (by assumption)) | (with_reducible exact Nat.le_of_lt (by assumption)) | (with_reducible refine le_ss ?_; k_extra "TL le") | ((fail_if_success (with_reducible refine le_ss ?_)); with_reducible refine le_s ?_; k_extra "TL le") | ((fail_if_success (with_reducible refine le_s ?_)); refine le_t ?_ (by with_reducible assumption); k_extra "TL le") | ((fail_if_success (with_reducible refine le_s ?_)); refine le_t ?_ (Nat.le_of_lt (by with_reducible assumption)); k_extra "TL le"))
  k_with "TL@ exec If Compare cons nil" => (k_extra "TL if")
  k_with "TL@ execs nil" => ((k_here; refine wpAny_execs_nil ?_))
  k_with "TL@ execs cons Assign nil" => ((k_here; (with_reducible refine wpAny_execs_cons ?_); try dsimp only))
  k_with "TL@ EscEnd next" => (k_extra "TL next")
  k_with "TL@ call builtin:str.replace nil" => (k_extra "TL rep")
  intro dp un gd cn cs a ccd cl outer A₀ base h₀ L m s Q E B F X N T hk hdp hu hret
  refine wpAny_call ?_
  k_dflt (refine' code_def ?k1 ?k2 ?k3 ?k4 ?k5 ?kA ?kF ?kK ?k6 ?k7 ?k8 ?k9 ?kB ?_ ?c2 ?c3 ?c4 ?c5; (case kA => exact rfl); (case kF => exact rfl); (case kK => assumption); (case k1 => k_asm); (case k2 => k_asm); (case k3 => k_asm); (case k4 => k_asm); (case k5 => k_asm); (case k6 => k_is); (case k7 => k_is); (case k8 => ktr_room); (case k9 => exact BindsTo.of_eq rfl); (case c5 => decide); (case kB => exact locs rfl); (case c2 => exact rfl); (case c3 => exact rfl); (case c4 => exact rfl); k_whole; intro g' L' h' FG' F' N' B' X' T'; (try dsimp only); (try k_lift B'); (try k_fold))
  generalize htk : HAdd.hAdd s.toks (List.length _) = tk
  have htk0 : tk ≠ 0 := by rw [← htk]; exact Nat.succ_ne_zero _
  clear htk
  k_with "TL if" => ((fail_if_success (with_reducible refine esc_in ?_)); k_dflt (refine esc_cut (by k_asm) (by k_asm) rfl (by assumption) (by decide) (by decide) (by assumption) ?_ ?_; rotate_left; (intro h' tk' t' htk' hzl F' N'); rotate_left))
  k_with "TL rep" => (k_dflt ((try dsimp only [List.nil_append, List.cons_append]); refine replaceP (by first | exact Nat.succ_ne_zero _ | assumption | ((try dsimp only); omega)) (by first | exact Nat.succ_ne_zero _ | ((try dsimp only); omega)) (by first | exact Nat.ne_of_lt (Nat.lt_succ_self _) | ((try dsimp only); omega)) (by decide) (rep_room (by assumption) (by decide) (by decide)) ?_; intro t' k' hk'))
  k_with "TL next" => (k_dflt (first | exact esc_no (by k_asm) (by k_asm) rfl (by assumption) (by (try dsimp only); omega) | exact esc_yes (by k_asm) (by k_asm) (by assumption) (by (try dsimp only at hk'); omega)))
  w_strict (k_steps; all_goals first
    | exact hret _ _ _ (by assumption) (by assumption))
theorem c14n_con (w : World) (mean : ExcName → Option Value) (mg mb : Str → Option Value) (news : List (Addr × Obj)) (z : Str) (t : Tok) (hz : z.length ≤ 8) :
   Con w mean mg mb 150 3 news [.str z t] (RetS news (escC z)) := by
  unfold Con
  k_fill
  w_top on
  w_on
  k_with_none
  k_with "TL lt0" => (first | (with_reducible assumption) | (refine lt_t ?_ (by with_reducible assumption); k_extra "TL lt0") | (with_reducible exact And.left (by assumption)) | (with_reducible exact And.left (And.right (by assumption))) | (with_reducible exact And.left (And.right (And.right (by assumption)))) | (with_reducible exact And.left (And.right (And.right (And.right (by assumption))))) | (with_reducible exact And.left (And.right (And.right (And.right (And.right (by assumption)))))) | (with_reducible exact And.left (And.right (And.right (And.right (And.right (And.right (by assumption))))))) | (with_reducible exact And.left (And.right (And.right (And.right (And.right (And.right (And.right (by assumption)))))))) | (with_reducible exact And.left (And.right (And.right (And.right (And.right (And.right (And.right (And.right (by assumption))))))))) | (with_reducible exact And.left (And.right (And.right (And.right (And.right (And.right (And.right (And.right (And.right (by assumption)))))))))) | (with_reducible exact And.left (And.right (And.right (And.right (And.right (And.right (And.right (And.right (And.right (And.right (by assumption))))))))))) | (with_reducible exact And.left (And.right (And.right (And.right (And.right (And.right (And.right (And.right (And.right (And.right (And.right (by assumption)))))))))))) | (with_reducible exact And.left (And.right (And.right (And.right (And.right (And.right (And.right (And.right (And.right (And.right (And.right (And.right (by assumption))))))))))))) | (with_reducible exact And.left (And.right (And.right (And.right (And.right (And.right (And.right (And.right (And.right (And.right (And.right (And.right (And.right (by assumption)))))))))))))) | (with_reducible exact And.left (And.right (And.right (And.right (And.right (And.right (And.right (And.right (And.right (And.right (And.right (And.right (And.right (And.right (by assumption))))))))))))))) | (with_reducible exact And.left (And.right (And.right (And.right (And.right (And.right (And.right (And.right (And.right (And.right (And.right (And.right (And.right (And.right (And.right (by assumption)))))))))))))))) | (with_reducible exact And.left (And.right (And.right (And.right (And.right (And.right (And.right (And.right (And.right (And.right (And.right (And.right (And.right (And.right (And.right (And.right (by assumption))))))))))))))))) | (with_reducible exact And.left (And.right (And.right (And.right (And.right (And.right (And.right (And.right (And.right (And.right (And.right (And.right (And.right (And.right (And.right (And.right (And.right (by assumption)))))))))))))))))) | (with_reducible exact And.left (And.right (And.right (And.right (And.right (And.right (And.right (And.right (And.right (And.right (And.right (And.right (And.right (And.right (And.right (And.right (And.right (And.right (by assumption))))))))))))))))))) | (with_reducible exact And.left (And.right (And.right (And.right (And.right (And.right (And.right (And.right (And.right (And.right (And.right (And.right (And.right (And.right (And.right (And.right (And.right (And.right (And.right (by assumption)))))))))))))))))))) | (with_reducible exact And.left (And.right (And.right (And.right (And.right (And.right (And.right (And.right (And.right (And.right (And.right (And.right (And.right (And.right (And.right (And.right (And.right (And.right (And.right (And.right (by assumption))))))))))))))))))))) | (with_reducible exact And.left (And.right (And.right (And.right (And.right (And.right (And.right (And.right (And.right (And.right (And.right (And.right (And.right (And.right (And.right (And.right (And.right (And.right (And.right (And.right (And.right (by assumption)))))))))))))))))))))) | (with_reducible exact And.left (And.right (And.right (And.right (And.right (And.right (And.right (And.right (And.right (And.right (And.right (And.right (And.right (And.right (And.right (And.right (And.right (And.right (And.right (And.right (And.right (And.right (by assumption))))))))))))))))))))))) | (with_reducible exact And.left (And.right (And.right (And.right (And.right (And.right (And.right (And.right (And.right (And.right (And.right (And.right (And.right (And.right (And.right (And.right (And.right (And.right (And.right (And.right (And.right (And.right (And.right (by assumption)))))))))))))))))))))))) | (with_reducible exact And.left (And.right (And.right (And.right (And.right (And.right (And.right (And.right (And.right (And.right (And.right (And.right (And.right (And.right (And.right (And.right (And.right (And.right (And.right (And.right (And.right (And.right (And.right (And.right (by assumption))))))))))))))))))))))))) | (with_reducible exact And.right (by assumption)) | (with_reducible exact And.right (And.right (by assumption))) | (with_reducible exact And.right (And.right (And.right (by assumption)))) | (with_reducible exact And.right (And.right (And.right (And.right (by assumption))))) | (with_reducible exact And.right (And.right (And.right (And.right (And.right (by assumption)))))) | (with_reducible exact And.right (And.right (And.right (And.right (And.right (And.right (by assumption))))))) | (with_reducible exact And.right (And.right (And.right (And.right (And.right (And.right (And.right (by assumption)))))))) | (with_reducible exact And.right (And.right (And.right (And.right (And.right (And.right (And.right (And.right (by assumption))))))))) | (with_reducible exact And.right (And.right (And.right (And.right (And.right (And.right (And.right (And.right (And.right (by assumption)))))))))) | (with_reducible exact And.right (And.right (And.right (And.right (And.right (And.right (And.right (And.right (And.right (And.right (by assumption))))))))))) | (with_reducible exact And.right (And.right (And.right (And.right (And.right (And.right (And.right (And.right (And.right (And.right (And.right (by assumption)))))))))))) | (with_reducible exact And.right (And.right (And.right (And.right (And.right (And.right (And.right (And.right (And.right (And.right (And.right (And.right (by assumption))))))))))))) | (with_reducible exact And.right (And.right (And.right (And.right (And.right (And.right (And.right (And.right (And.right (And.right (And.right (And.right (And.right (by assumption)))))))))))))) | (with_reducible exact And.right (And.right (And.right (And.right (And.right (And.right (And.right (And.right (And.right (And.right (And.right (And.right (And.right (And.right (by assumption))))))))))))))) | (with_reducible exact And.right (And.right (And.right (And.right (And.right (And.right (And.right (And.right (And.right (And.right (And.right (And.right (And.right (And.right (And.right (by assumption)))))))))))))))) | (with_reducible exact And.right (And.right (And.right (And.right (And.right (And.right (And.right (And.right (And.right (And.right (And.right (And.right (And.right (And.right (And.right (And.right (by assumption))))))))))))))))) | (with_reducible exact And.right (And.right (And.right (And.right (And.right (And.right (And.right (And.right (And.right (And.right (And.right (And.right (And.right (And.right (And.right (And.right (And.right (by assumption)))))))))))))))))) | (with_reducible exact And.right (And.right (And.right (And.right (And.right (And.right (And.right (And.right (And.right (And.right (And.right (And.right (And.right (And.right (And.right (And.right (And.right (And.right (by assumption))))))))))))))))))) | (with_reducible exact And.right (And.right (And.right (And.right (And.right (And.right (And.right (And.right (And.right (And.right (And.right (And.right (And.right (And.right (And.right (And.right (And.right (And.right (And.right (by assumption)))))))))))))))))))) | (with_reducible exact And.right (And.right (And.right (And.right (And.right (And.right (And.right (And.right (And.right (And.right (And.right (And.right (And.right (And.right (And.right (And.right (And.right (And.right (And.right (And.right (by assumption))))))))))))))))))))) | (with_reducible exact And.right (And.right (And.right (And.right (And.right (And.right (And.right (And.right (And.right (And.right (And.right (And.right (And.right (And.right (And.right (And.right (And.right (And.right (And.right (And.right (And.right (by assumption)))))))))))))))))))))) | (with_reducible exact And.right (And.right (And.right (And.right (And.right (And.right (And.right (And.right (And.right (And.right (And.right (And.right (And.right (And.right (And.right (And.right (And.right (And.right (And.right (And.right (And.right (And.right (by assumption))))))))))))))))))))))) | (with_reducible exact And.right (And.right (And.right (And.right (And.right (And.right (And.right (And.right (And.right (And.right (And.right (And.right (And.right (And.right (And.right (And.right (And.right (And.right (And.right (And.right (And.right (And.right (And.right (by assumption)))))))))))))))))))))))))
  k_with "TL ne0" => (refine neN ?_; (try dsimp only); first | (with_reducible assumption) | (refine Ne.symm ?_; with_reducible assumption) | (with_reducible exact And.left (by assumption)) | (with_reducible exact And.left (And.right (by assumption))) | (with_reducible exact And.left (And.right (And.right (by assumption)))) | (with_reducible exact And.left (And.right (And.right (And.right (by assumption))))) | (with_reducible exact And.left (And.right (And.right (And.right (And.right (by assumption)))))) | (with_reducible exact And.left (And.right (And.right (And.right (And.right (And.right (by assumption))))))) | (with_reducible exact Ne.symm <| And.left (by assumption)) | (with_reducible exact Ne.symm <| And.left (And.right (by assumption))) | (with_reducible exact Ne.symm <| And.left (And.right (And.right (by assumption)))) | (with_reducible exact Ne.symm <| And.left (And.right (And.right (And.right (by assumption))))) | (with_reducible exact Ne.symm <| And.left (And.right (And.right (And.right (And.right (by assumption)))))) | (with_reducible exact Ne.symm <| And.left (And.right (And.right (And.right (And.right (And.right (by assumption))))))) | (refine ne_gt ?_; k_extra "TL lt0") | (refine ne_lt ?_; k_extra "TL lt0"))
  k_with "TL le" => (first | (with_reducible assumption) | (with_reducible exact Nat.le_refl _) | (with_reducible exact Nat.succ_le_of_lt (by assumption)) | (with_reducible exact Nat.le_of_lt (by assumption)) | (with_reducible refine le_ss ?_; k_extra "TL le") | ((fail_if_success (with_reducible refine le_ss ?_)); with_reducible refine le_s ?_; k_extra "TL le") | ((fail_if_success (with_reducible refine le_s ?_)); refine le_t ?_ (by with_reducible assumption); k_extra "TL le") | ((fail_if_success (with_reducible refine le_s ?_)); refine le_t ?_ (Nat.le_of_lt (by with_reducible assumption)); k_extra "TL le"))
  k_with "TL@ exec If Compare cons nil" => (k_extra "TL if")
  k_with "TL@ execs nil" => ((k_here; refine wpAny_execs_nil ?_))
  k_with "TL@ execs cons Assign nil" => ((k_here; (with_reducible refine wpAny_execs_cons ?_); try dsimp only))
  k_with "TL@ EscEnd next" => (k_extra "TL next")
  k_with "TL@ call builtin:str.replace nil" => (k_extra "TL rep")
  intro dp un gd cn cs a ccd cl outer A₀ base h₀ L m s Q E B F X N T hk hdp hu hret
  refine wpAny_call ?_
  k_dflt (refine' code_def ?k1 ?k2 ?k3 ?k4 ?k5 ?kA ?kF ?kK ?k6 ?k7 ?k8 ?k9 ?kB ?_ ?c2 ?c3 ?c4 ?c5; (case kA => exact rfl); (case kF => exact rfl); (case kK => assumption); (case k1 => k_asm); (case k2 => k_asm); (case k3 => k_asm); (case k4 => k_asm); (case k5 => k_asm); (case k6 => k_is); (case k7 => k_is); (case k8 => ktr_room); (case k9 => exact BindsTo.of_eq rfl); (case c5 => decide); (case kB => exact locs rfl); (case c2 => exact rfl); (case c3 => exact rfl); (case c4 => exact rfl); k_whole; intro g' L' h' FG' F' N' B' X' T'; (try dsimp only); (try k_lift B'); (try k_fold))
  generalize htk : HAdd.hAdd s.toks (List.length _) = tk
  have htk0 : tk ≠ 0 := by rw [← htk]; exact Nat.succ_ne_zero _
  clear htk
  k_with "TL if" => ((fail_if_success (with_reducible refine esc_in ?_)); k_dflt (refine esc_cut (by k_asm) (by k_asm) rfl (by assumption) (by decide) (by decide) (by assumption) ?_ ?_; rotate_left; (intro h' tk' t' htk' hzl F' N'); rotate_left))
  k_with "TL rep" => (k_dflt ((try dsimp only [List.nil_append, List.cons_append]); refine replaceP (by first | exact Nat.succ_ne_zero _ | assumption | ((try dsimp only); omega)) (by first | exact Nat.succ_ne_zero _ | ((try dsimp only); omega)) (by first | exact Nat.ne_of_lt (Nat.lt_succ_self _) | ((try dsimp only); omega)) (by decide) (rep_room (by assumption) (by decide) (by decide)) ?_; intro t' k' hk'))
  k_with "TL next" => (k_dflt (first | exact esc_no (by k_asm) (by k_asm) rfl (by assumption) (by (try dsimp only); omega) | exact esc_yes (by k_asm) (by k_asm) (by assumption) (by (try dsimp only at hk'); omega)))
  w_strict (k_steps; all_goals first
    | exact hret _ _ _ (by assumption) (by assumption))
end TL
end

section
open PySem PySem.W PySem.Spec PySem.Calls PyProof.Rows
set_option maxRecDepth 100000
set_option maxHeartbeats 8000000
namespace TL
def escK (k : Int) (z : Str) : Str := if k = 0 then escA z else if k = 1 then escH z else escC z
theorem written_con (w : World) (mean : ExcName → Option Value) (mg mb : Str → Option Value) (news : List (Addr × Obj)) (k : Int) (t tz : Tok) (z : Str) (h0 : 0 ≤ k) (h2 : k ≤ 2) (hz : z.length ≤ 8) :
   Con w mean mg mb 157 5 news [.int k t, .str z tz] (RetS news (escK k z)) := by
  unfold Con
  k_fill
  w_top on
  w_on
  k_with_none
  k_with "TL lt0" => (first | (with_reducible assumption) | (refine lt_t ?_ (by with_reducible assumption); k_extra "TL lt0") | (with_reducible exact And.left (by assumption)) | (with_reducible exact And.left (And.right (by assumption))) | (with_reducible exact And.left (And.right (And.right (by assumption)))) | (with_reducible exact And.left (And.right (And.right (And.right (by assumption))))) | (with_reducible exact And.left (And.right (And.right (And.right (And.right (by assumption)))))) | (with_reducible exact And.left (And.right (And.right (And.right (And.right (And.right (by assumption))))))) | (with_reducible exact And.left (And.right (And.right (And.right (And.right (And.right (And.right (by assumption)))))))) | (with_reducible exact And.left (And.right (And.right (And.right (And.right (And.right (And.right (And.right (by assumption))))))))) | (with_reducible exact And.left (And.right (And.right (And.right (And.right (And.right (And.right (And.right (And.right (by assumption)))))))))) | (with_reducible exact And.left (And.right (And.right (And.right (And.right (And.right (And.right (And.right (And.right (And.right (by assumption))))))))))) | (with_reducible exact And.left (And.right (And.right (And.right (And.right (And.right (And.right (And.right (And.right (And.right (And.right (by assumption)))))))))))) | (with_reducible exact And.left (And.right (And.right (And.right (And.right (And.right (And.right (And.right (And.right (And.right (And.right (And.right (by assumption))))))))))))) | (with_reducible exact And.left (And.right (And.right (And.right (And.right (And.right (And.right (And.right (And.right (And.right (And.right (And.right (And.right (by assumption)))))))))))))) | (with_reducible exact And.left (And.right (And.right (And.right (And.right (And.right (And.right (And.right (And.right (And.right (And.right (And.right (And.right (And.right (by assumption))))))))))))))) | (with_reducible exact And.left (And.right (And.right (And.right (And.right (And.right (And.right (And.right (And.right (And.right (And.right (And.right (And.right (And.right (And.right (by assumption)))))))))))))))) | (with_reducible exact And.left (And.right (And.right (And.right (And.right (And.right (And.right (And.right (And.right (And.right (And.right (And.right (And.right (And.right (And.right (And.right (by assumption))))))))))))))))) | (with_reducible exact And.left (And.right (And.right (And.right (And.right (And.right (And.right (And.right (And.right (And.right (And.right (And.right (And.right (And.right (And.right (And.right (And.right (by assumption)))))))))))))))))) | (with_reducible exact And.left (And.right (And.right (And.right (And.right (And.right (And.right (And.right (And.right (And.right (And.right (And.right (And.right (And.right (And.right (And.right (And.right (And.right (by assumption))))))))))))))))))) | (with_reducible exact And.left (And.right (And.right (And.right (And.right (And.right (And.right (And.right (And.right (And.right (And.right (And.right (And.right (And.right (And.right (And.right (And.right (And.right (And.right (by assumption)))))))))))))))))))) | (with_reducible exact And.left (And.right (And.right (And.right (And.right (And.right (And.right (And.right (And.right (And.right (And.right (And.right (And.right (And.right (And.right (And.right (And.right (And.right (And.right (And.right (by assumption))))))))))))))))))))) | (with_reducible exact And.left (And.right (And.right (And.right (And.right (And.right (And.right (And.right (And.right (And.right (And.right (And.right (And.right (And.right (And.right (And.right (And.right (And.right (And.right (And.right (And.right (by assumption)))))))))))))))))))))) | (with_reducible exact And.left (And.right (And.right (And.right (And.right (And.right (And.right (And.right (And.right (And.right (And.right (And.right (And.right (And.right (And.right (And.right (And.right (And.right (And.right (And.right (And.right (And.right (by assumption))))))))))))))))))))))) | (with_reducible exact And.left (And.right (And.right (And.right (And.right (And.right (And.right (And.right (And.right (And.right (And.right (And.right (And.right (And.right (And.right (And.right (And.right (And.right (And.right (And.right (And.right (And.right (And.right (by assumption)))))))))))))))))))))))) | (with_reducible exact And.left (And.right (And.right (And.right (And.right (And.right (And.right (And.right (And.right (And.right (And.right (And.right (And.right (And.right (And.right (And.right (And.right (And.right (And.right (And.right (And.right (And.right (And.right (And.right (by assumption))))))))))))))))))))))))) | (with_reducible exact And.right (by assumption)) | (with_reducible exact And.right (And.right (by assumption))) | (with_reducible exact And.right (And.right (And.right (by assumption)))) | (with_reducible exact And.right (And.right (And.right (And.right (by assumption))))) | (with_reducible exact And.right (And.right (And.right (And.right (And.right (by assumption)))))) | (with_reducible exact And.right (And.right (And.right (And.right (And.right (And.right (by assumption))))))) | (with_reducible exact And.right (And.right (And.right (And.right (And.right (And.right (And.right (by assumption)))))))) | (with_reducible exact And.right (And.right (And.right (And.right (And.right (And.right (And.right (And.right (by assumption))))))))) | (with_reducible exact And.right (And.right (And.right (And.right (And.right (And.right (And.right (And.right (And.right (by assumption)))))))))) | (with_reducible exact And.right (And.right (And.right (And.right (And.right (And.right (And.right (And.right (And.right (And.right (by assumption))))))))))) | (with_reducible exact And.right (And.right (And.right (And.right (And.right (And.right (And.right (And.right (And.right (And.right (And.right (by assumption)))))))))))) | (with_reducible exact And.right (And.right (And.right (And.right (And.right (And.right (And.right (And.right (And.right (And.right (And.right (And.right (by assumption))))))))))))) | (with_reducible exact And.right (And.right (And.right (And.right (And.right (And.right (And.right (And.right (And.right (And.right (And.right (And.right (And.right (by assumption)))))))))))))) | (with_reducible exact And.right (And.right (And.right (And.right (And.right (And.right (And.right (And.right (And.right (And.right (And.right (And.right (And.right (And.right (by assumption))))))))))))))) | (with_reducible exact And.right (And.right (And.right (And.right (And.right (And.right (And.right (And.right (And.right (And.right (And.right (And.right (And.right (And.right (And.right (by assumption)))))))))))))))) | (with_reducible exact And.right (And.right (And.right (And.right (And.right (And.right (And.right (And.right (And.right (And.right (And.right (And.right (And.right (And.right (And.right (And.right (by assumption))))))))))))))))) | (with_reducible exact And.right (And.right (And.right (And.right (And.right (And.right (And.right (And.right (And.right (And.right (And.right (And.right (And.right (And.right (And.right (And.right (And.right (by assumption)))))))))))))))))) | (with_reducible exact And.right (And.right (And.right (And.right (And.right (And.right (And.right (And.right (And.right (And.right (And.right (And.right (And.right (And.right (And.right (And.right (And.right (And.right (by assumption))))))))))))))))))) | (with_reducible exact And.right (And.right (And.right (And.right (And.right (And.right (And.right (And.right (And.right (And.right (And.right (And.right (And.right (And.right (And.right (And.right (And.right (And.right (And.right (by assumption)))))))))))))))))))) | (with_reducible exact And.right (And.right (And.right (And.right (And.right (And.right (And.right (And.right (And.right (And.right (And.right (And.right (And.right (And.right (And.right (And.right (And.right (And.right (And.right (And.right (by assumption))))))))))))))))))))) | (with_reducible exact And.right (And.right (And.right (And.right (And.right (And.right (And.right (And.right (And.right (And.right (And.right (And.right (And.right (And.right (And.right (And.right (And.right (And.right (And.right (And.right (And.right (by assumption)))))))))))))))))))))) | (with_reducible exact And.right (And.right (And.right (And.right (And.right (And.right (And.right (And.right (And.right (And.right (And.right (And.right (And.right (And.right (And.right (And.right (And.right (And.right (And.right (And.right (And.right (And.right (by assumption))))))))))))))))))))))) | (with_reducible exact And.right (And.right (And.right (And.right (And.right (And.right (And.right (And.right (And.right (And.right (And.right (And.right (And.right (And.right (And.right (And.right (And.right (And.right (And.right (And.right (And.right (And.right (And.right (by assumption)))))))))))))))))))))))))
  k_with "TL ne0" => (refine neN ?_; (try dsimp only); first | (with_reducible assumption) | (refine Ne.symm ?_; with_reducible assumption) | (with_reducible exact And.left (by assumption)) | (with_reducible exact And.left (And.right (by assumption))) | (with_reducible exact And.left (And.right (And.right (by assumption)))) | (with_reducible exact And.left (And.right (And.right (And.right (by assumption))))) | (with_reducible exact And.left (And.right (And.right (And.right (And.right (by assumption)))))) | (with_reducible exact And.left (And.right (And.right (And.right (And.right (And.right (by assumption))))))) | (with_reducible exact Ne.symm <| And.left (by assumption)) | (with_reducible exact Ne.symm <| And.left (And.right (by assumption))) | (with_reducible exact Ne.symm <| And.left (And.right (And.right (by assumption)))) | (with_reducible exact Ne.symm <| And.left (And.right (And.right (And.right (by assumption))))) | (with_reducible exact Ne.symm <| And.left (And.right (And.right (And.right (And.right (by assumption)))))) | (with_reducible exact Ne.symm <| And.left (And.right (And.right (And.right (And.right (And.right (by assumption))))))) | (refine ne_gt ?_; k_extra "TL lt0") | (refine ne_lt ?_; k_extra "TL lt0"))
  k_with "TL le" => (first | (with_reducible assumption) | (with_reducible exact Nat.le_refl _) | (with_reducible exact Nat.succ_le_of_lt (by assumption)) | (with_reducible exact Nat.le_of_lt (by assumption)) | (with_reducible refine le_ss ?_; k_extra "TL le") | ((fail_if_success (with_reducible refine le_ss ?_)); with_reducible refine le_s ?_; k_extra "TL le") | ((fail_if_success (with_reducible refine le_s ?_)); refine le_t ?_ (by with_reducible assumption); k_extra "TL le") | ((fail_if_success (with_reducible refine le_s ?_)); refine le_t ?_ (Nat.le_of_lt (by with_reducible assumption)); k_extra "TL le"))
  k_with "TL@ call ref cons nil" => (k_extra "TL call")
  intro dp un gd cn cs a ccd cl outer A₀ base h₀ L m s Q E B F X N T hk hdp hu hret
  obtain rfl | rfl | rfl : k = 0 ∨ k = 1 ∨ k = 2 := int012 (by first | assumption | exact ⟨by assumption, by assumption⟩)
  all_goals refine wpAny_call ?_
  all_goals k_dflt cell_enter
  k_with "TL call" => (k_dflt ((try dsimp only [List.nil_append, List.cons_append, List.append_nil]); refine' Con.use (attrib_con _ _ _ _ _ _ _ hz) ?k1 ?k2 ?k3 ?k4 ?k5 ?kK ?kd ?ku ?_; (case k1 => k_asm); (case k2 => k_asm); (case k3 => k_asm); (case k4 => k_asm); (case k5 => k_asm); (case kK => first | exact rfl | assumption); (case kd => ktr_room); (case ku => ktr_units); k_whole); intro t3 h3 tk3 F3 N3; (try dsimp only); (try k_sweep))
  k_with "TL call" => (k_dflt ((try dsimp only [List.nil_append, List.cons_append, List.append_nil]); refine' Con.use (html_con _ _ _ _ _ _ _ hz) ?k1 ?k2 ?k3 ?k4 ?k5 ?kK ?kd ?ku ?_; (case k1 => k_asm); (case k2 => k_asm); (case k3 => k_asm); (case k4 => k_asm); (case k5 => k_asm); (case kK => first | exact rfl | assumption); (case kd => ktr_room); (case ku => ktr_units); k_whole); intro t3 h3 tk3 F3 N3; (try dsimp only); (try k_sweep))
  k_with "TL call" => (k_dflt ((try dsimp only [List.nil_append, List.cons_append, List.append_nil]); refine' Con.use (c14n_con _ _ _ _ _ _ _ hz) ?k1 ?k2 ?k3 ?k4 ?k5 ?kK ?kd ?ku ?_; (case k1 => k_asm); (case k2 => k_asm); (case k3 => k_asm); (case k4 => k_asm); (case k5 => k_asm); (case kK => first | exact rfl | assumption); (case kd => ktr_room); (case ku => ktr_units); k_whole); intro t3 h3 tk3 F3 N3; (try dsimp only); (try k_sweep))
  all_goals w_strict (k_steps; all_goals first
    | exact hret _ _ _ (by assumption) (by assumption))
end TL
end

section
open PySem PySem.W PySem.Spec PySem.Calls PyProof.Rows
set_option maxRecDepth 100000
set_option maxHeartbeats 8000000
namespace TL
/-- k blanks and a tab -/
def bead (k : Int) : Str := Txt.mul (Str.ofString " ") k ++ Str.ofString "\t"
theorem vals_strs {g : Int → Str} {ns : List Int} : ∀ {ys : List Value} {i : Nat}, Vals (fun i y => ∃ k t, ns[i]? = some k ∧ y = .str (g k) t) i ys → i + ys.length = ns.length → StrsAre ys ((ns.drop i).map g)
  | [], i, _, h => by
    rw [List.drop_eq_nil_of_le (by simp at h; omega)]
    exact .nil
  | y :: ys, i, .cons hy r, h => by
    obtain ⟨k, t, hk, rfl⟩ := hy
    have e : ns.drop i = k :: ns.drop (i + 1) := by
      obtain ⟨hlt, hk'⟩ := List.getElem?_eq_some_iff.mp hk
      rw [List.drop_eq_getElem_cons hlt, hk']
    rw [e]
    exact .cons _ _ (vals_strs r (by rw [List.length_cons] at h; omega))
theorem bead_length {k : Int} (h : 0 ≤ k ∧ k ≤ 2) : (bead k).length ≤ 3 := by
  have : k = 0 ∨ k = 1 ∨ k = 2 := int012 (by first | assumption | exact ⟨by assumption, by assumption⟩)
  rcases this with rfl | rfl | rfl <;> decide +kernel
theorem beads_weight : ∀ {ns : List Int}, (∀ k ∈ ns, 0 ≤ k ∧ k ≤ 2) → ((ns.map bead).map (·.length)).sum ≤ 3 * ns.length
  | [], _ => by simp
  | k :: ns, h => by
    have h1 := bead_length (h k (.head _))
    have h2 := beads_weight fun x hx => h x (.tail _ hx)
    simp only [List.map_cons, List.sum_cons, List.length_cons] at h2 ⊢
    omega
theorem join_empty (l : List Str) : (Txt.join (Str.ofString "") l).cps.toList = (l.map (·.cps.toList)).flatten := by
  have e : Txt.join (Str.ofString "") l = Str.join (Str.ofString "") l := by
    exact StrLaws.glued_eq_join _ _
  rw [e]
  clear e
  induction l with
  | nil => rfl
  | cons x r ih =>
    cases r with
    | nil => simp [Str.join]
    | cons y r =>
      have q : Str.join (Str.ofString "") (x :: y :: r) = x ++ Str.ofString "" ++ Str.join (Str.ofString "") (y :: r) := rfl
      have q0 : (Str.ofString "").cps.toList = [] := by decide
      rw [q, Str.cps_append, Str.cps_append, Array.toList_append, Array.toList_append, q0, List.append_nil, ih]
      rfl
def leadCodes (ns : List Int) (b : Int) : List Nat := (ns.map fun k => List.replicate k.toNat 32 ++ [9]).flatten ++ List.replicate b.toNat 32
def leadTxt (ns : List Int) (b : Int) : Str := Txt.join (Str.ofString "") (ns.map bead) ++ Txt.mul (Str.ofString " ") b ++ Str.ofString "x \t"
theorem bead_codes {k : Int} (h : 0 ≤ k ∧ k ≤ 2) : (bead k).cps.toList = List.replicate k.toNat 32 ++ [9] := by
  have : k = 0 ∨ k = 1 ∨ k = 2 := int012 (by first | assumption | exact ⟨by assumption, by assumption⟩)
  rcases this with rfl | rfl | rfl <;> decide +kernel
theorem behind_codes {k : Int} (h : 0 ≤ k ∧ k ≤ 1) : (Txt.mul (Str.ofString " ") k).cps.toList = List.replicate k.toNat 32 := by
  have : k = 0 ∨ k = 1 := by omega
  rcases this with rfl | rfl <;> decide +kernel
theorem leadTxt_codes {ns : List Int} {b : Int} (hk : ∀ k ∈ ns, 0 ≤ k ∧ k ≤ 2) (hb : 0 ≤ b ∧ b ≤ 1) : (leadTxt ns b).cps.toList = leadCodes ns b ++ [120, 32, 9] := by
  have q : (Str.ofString "x \t").cps.toList = [120, 32, 9] := by decide
  have e : (ns.map bead).map (·.cps.toList) = ns.map fun k => List.replicate k.toNat 32 ++ [9] := by
    rw [List.map_map]
    exact List.map_congr_left fun k hm => bead_codes (hk k hm)
  unfold leadTxt leadCodes
  rw [Str.cps_append, Str.cps_append, Array.toList_append, Array.toList_append, q, join_empty, behind_codes hb, e]
theorem leadCodes_all {ns : List Int} {b : Int} : ∀ c ∈ leadCodes ns b, c = 32 ∨ c = 9 := by
  intro c hc
  unfold leadCodes at hc
  rcases List.mem_append.mp hc with hc | hc
  · obtain ⟨l, hl, hc⟩ := List.mem_flatten.mp hc
    obtain ⟨k, _, rfl⟩ := List.mem_map.mp hl
    rcases List.mem_append.mp hc with hc | hc
    · exact .inl (List.eq_of_mem_replicate hc)
    · exact .inr (List.mem_singleton.mp hc)
  · exact .inl (List.eq_of_mem_replicate hc)
theorem lead_while {ns : List Int} {b : Int} (hk : ∀ k ∈ ns, 0 ≤ k ∧ k ≤ 2) (hb : 0 ≤ b ∧ b ≤ 1) : ((leadTxt ns b).cps.toList.takeWhile fun c => decide (c = 32 ∨ c = 9)) = leadCodes ns b := by
  rw [leadTxt_codes hk hb, List.takeWhile_append_of_pos (by intro a ha; simpa using leadCodes_all a ha)]
  simp
theorem lead_small {ns : List Int} {b : Int} (hk : ∀ k ∈ ns, 0 ≤ k ∧ k ≤ 2) (hb : 0 ≤ b ∧ b ≤ 1) (hl : ns.length ≤ 8) : (leadTxt ns b).cps.size < 2 ^ 12 := by
  have h1 : (leadTxt ns b).cps.size = (leadCodes ns b ++ [120, 32, 9]).length := by rw [← leadTxt_codes hk hb, Array.length_toList]
  have h2 : ∀ {ns : List Int}, (∀ k ∈ ns, 0 ≤ k ∧ k ≤ 2) → (ns.map fun k => List.replicate k.toNat 32 ++ [9]).flatten.length ≤ 3 * ns.length := by
    intro ns
    induction ns with
    | nil => intro _; exact Nat.le_refl _
    | cons k r ih =>
      intro h
      have := ih fun x hx => h x (.tail _ hx)
      have hk := h k (.head _)
      simp only [List.map_cons, List.flatten_cons, List.length_append, List.length_replicate, List.length_cons, List.length_nil] at this ⊢
      omega
  have h3 := h2 hk
  rw [h1]
  unfold leadCodes
  simp only [List.length_append, List.length_replicate, List.length_cons, List.length_nil]
  omega
theorem lead_ascii {ns : List Int} {b : Int} (hk : ∀ k ∈ ns, 0 ≤ k ∧ k ≤ 2) (hb : 0 ≤ b ∧ b ≤ 1) : (leadTxt ns b).cps.all (· < 128) = true := by
  rw [← Array.all_toList, leadTxt_codes hk hb, List.all_append]
  refine Bool.and_eq_true_iff.mpr ⟨List.all_eq_true.mpr fun c hc => ?_, by decide⟩
  rcases leadCodes_all c hc with rfl | rfl <;> decide
theorem lead_has {ns : List Int} {b : Int} (hk : ∀ k ∈ ns, 0 ≤ k ∧ k ≤ 2) (hb : 0 ≤ b ∧ b ≤ 1) : 120 ∈ (leadTxt ns b).cps.toList := by
  rw [leadTxt_codes hk hb]
  exact List.mem_append_right _ (.head _)
theorem join_len {ns : List Int} (hk : ∀ k ∈ ns, 0 ≤ k ∧ k ≤ 2) (hl : ns.length ≤ 8) : (Txt.join (Str.ofString "") (ns.map bead)).length ≤ 24 := by
  have h0 : (Txt.join (Str.ofString "") (ns.map bead)).length = (Txt.join (Str.ofString "") (ns.map bead)).cps.toList.length := (Array.length_toList).symm
  have h1 := beads_weight hk
  rw [h0, join_empty, List.length_flatten, List.map_map]
  have e : (List.map (List.length ∘ fun (x : Str) => x.cps.toList) (ns.map bead)) = (ns.map bead).map (·.length) := List.map_congr_left fun x _ => Array.length_toList
  rw [e]
  omega
theorem behind_len {k : Int} (h : 0 ≤ k ∧ k ≤ 1) : (Txt.mul (Str.ofString " ") k).length ≤ 1 := by
  have : k = 0 ∨ k = 1 := by omega
  rcases this with rfl | rfl <;> decide +kernel
theorem add_1 {x y : Str} {n m : Nat} (hx : x.length ≤ n) (hy : y.length ≤ m) (h : n + m ≤ 4096) : x.length + y.length ≤ sizeLine := by rw [PySem.sizeLine_eq]; omega
theorem lead2_len {ns : List Int} {b : Int} (hk : ∀ k ∈ ns, 0 ≤ k ∧ k ≤ 2) (hl : ns.length ≤ 8) (hb : 0 ≤ b ∧ b ≤ 1) : (Txt.join (Str.ofString "") (ns.map bead) ++ Txt.mul (Str.ofString " ") b).length ≤ 25 := by
  rw [Str.length_append]
  have := join_len hk hl
  have := behind_len hb
  omega
theorem lead_con (w : World) (mean : ExcName → Option Value) (mg mb : Str → Option Value) (news : List (Addr × Obj)) (l : Addr) (vs : List Value) (ns : List Int) (behind : Int) (tb : Tok)
    {n : Nat} (hl : (l, W.listOf vs.toArray n) ∈ news) (hi : IntsAre vs ns) (hlen : ns.length ≤ 8) (hk3 : ∀ k ∈ ns, 0 ≤ k ∧ k ≤ 2) (hb : 0 ≤ behind ∧ behind ≤ 1) :
   Con w mean mg mb 181 5 news [.ref l, .int behind tb] (fun h₀ L m s Q => ∀ t : Tok, RetW w.params news (leadTxt ns behind) t (wsRun (leadCodes ns behind)) h₀ L m s Q) := by
  unfold Con
  k_fill
  w_top on
  w_on
  k_with_none
  k_with "TL lt0" => (first | (with_reducible assumption) | (refine lt_t ?_ (by with_reducible assumption); k_extra "TL lt0") | (with_reducible exact And.left (by assumption)) | (with_reducible exact And.left (And.right (by assumption))) | (with_reducible exact And.left (And.right (And.right (by assumption)))) | (with_reducible exact And.left (And.right (And.right (And.right (by assumption))))) | (with_reducible exact And.left (And.right (And.right (And.right (And.right (by assumption)))))) | (with_reducible exact And.left (And.right (And.right (And.right (And.right (And.right (by assumption))))))) | (with_reducible exact And.left (And.right (And.right (And.right (And.right (And.right (And.right (by assumption)))))))) | (with_reducible exact And.left (And.right (And.right (And.right (And.right (And.right (And.right (And.right (by assumption))))))))) | (with_reducible exact And.left (And.right (And.right (And.right (And.right (And.right (And.right (And.right (And.right (by assumption)))))))))) | (with_reducible exact And.left (And.right (And.right (And.right (And.right (And.right (And.right (And.right (And.right (And.right (by assumption))))))))))) | (with_reducible exact And.left (And.right (And.right (And.right (And.right (And.right (And.right (And.right (And.right (And.right (And.right (by assumption)))))))))))) | (with_reducible exact And.left (And.right (And.right (And.right (And.right (And.right (And.right (And.right (And.right (And.right (And.right (And.right (by assumption))))))))))))) | (with_reducible exact And.left (And.right (And.right (And.right (And.right (And.right (And.right (And.right (And.right (And.right (And.right (And.right (And.right (by assumption)))))))))))))) | (with_reducible exact And.left (And.right (And.right (And.right (And.right (And.right (And.right (And.right (And.right (And.right (And.right (And.right (And.right (And.right (by assumption))))))))))))))) | (with_reducible exact And.left (And.right (And.right (And.right (And.right (And.right (And.right (And.right (And.right (And.right (And.right (And.right (And.right (And.right (And.right (by assumption)))))))))))))))) | (with_reducible exact And.left (And.right (And.right (And.right (And.right (And.right (And.right (And.right (And.right (And.right (And.right (And.right (And.right (And.right (And.right (And.right (by assumption))))))))))))))))) | (with_reducible exact And.left (And.right (And.right (And.right (And.right (And.right (And.right (And.right (And.right (And.right (And.right (And.right (And.right (And.right (And.right (And.right (And.right (by assumption)))))))))))))))))) | (with_reducible exact And.left (And.right (And.right (And.right (And.right (And.right (And.right (And.right (And.right (And.right (And.right (And.right (And.right (And.right (And.right (And.right (And.right (And.right (by assumption))))))))))))))))))) | (with_reducible exact And.left (And.right (And.right (And.right (And.right (And.right (And.right (And.right (And.right (And.right (And.right (And.right (And.right (And.right (And.right (And.right (And.right (And.right (And.right (by assumption)))))))))))))))))))) | (with_reducible exact And.left (And.right (And.right (And.right (And.right (And.right (And.right (And.right (And.right (And.right (And.right (And.right (And.right (And.right (And.right (And.right (And.right (And.right (And.right (And.right (by assumption))))))))))))))))))))) | (with_reducible exact And.left (And.right (And.right (And.right (And.right (And.right (And.right (And.right (And.right (And.right (And.right (And.right (And.right (And.right (And.right (And.right (And.right (And.right (And.right (And.right (And.right (by assumption)))))))))))))))))))))) | (with_reducible exact And.left (And.right (And.right (And.right (And.right (And.right (And.right (And.right (And.right (And.right (And.right (And.right (And.right (And.right (And.right (And.right (And.right (And.right (And.right (And.right (And.right (And.right (by assumption))))))))))))))))))))))) | (with_reducible exact And.left (And.right (And.right (And.right (And.right (And.right (And.right (And.right (And.right (And.right (And.right (And.right (And.right (And.right (And.right (And.right (And.right (And.right (And.right (And.right (And.right (And.right (And.right (by assumption)))))))))))))))))))))))) | (with_reducible exact And.left (And.right (And.right (And.right (And.right (And.right (And.right (And.right (And.right (And.right (And.right (And.right (And.right (And.right (And.right (And.right (And.right (And.right (And.right (And.right (And.right (And.right (And.right (And.right (by assumption))))))))))))))))))))))))) | (with_reducible exact And.right (by assumption)) | (with_reducible exact And.right (And.right (by assumption))) | (with_reducible exact And.right (And.right (And.right (by assumption)))) | (with_reducible exact And.right (And.right (And.right (And.right (by assumption))))) | (with_reducible exact And.right (And.right (And.right (And.right (And.right (by assumption)))))) | (with_reducible exact And.right (And.right (And.right (And.right (And.right (And.right (by assumption))))))) | (with_reducible exact And.right (And.right (And.right (And.right (And.right (And.right (And.right (by assumption)))))))) | (with_reducible exact And.right (And.right (And.right (And.right (And.right (And.right (And.right (And.right (by assumption))))))))) | (with_reducible exact And.right (And.right (And.right (And.right (And.right (And.right (And.right (And.right (And.right (by assumption)))))))))) | (with_reducible exact And.right (And.right (And.right (And.right (And.right (And.right (And.right (And.right (And.right (And.right (by assumption))))))))))) | (with_reducible exact And.right (And.right (And.right (And.right (And.right (And.right (And.right (And.right (And.right (And.right (And.right (by assumption)))))))))))) | (with_reducible exact And.right (And.right (And.right (And.right (And.right (And.right (And.right (And.right (And.right (And.right (And.right (And.right (by assumption))))))))))))) | (with_reducible exact And.right (And.right (And.right (And.right (And.right (And.right (And.right (And.right (And.right (And.right (And.right (And.right (And.right (by assumption)))))))))))))) | (with_reducible exact And.right (And.right (And.right (And.right (And.right (And.right (And.right (And.right (And.right (And.right (And.right (And.right (And.right (And.right (by assumption))))))))))))))) | (with_reducible exact And.right (And.right (And.right (And.right (And.right (And.right (And.right (And.right (And.right (And.right (And.right (And.right (And.right (And.right (And.right (by assumption)))))))))))))))) | (with_reducible exact And.right (And.right (And.right (And.right (And.right (And.right (And.right (And.right (And.right (And.right (And.right (And.right (And.right (And.right (And.right (And.right (by assumption))))))))))))))))) | (with_reducible exact And.right (And.right (And.right (And.right (And.right (And.right (And.right (And.right (And.right (And.right (And.right (And.right (And.right (And.right (And.right (And.right (And.right (by assumption)))))))))))))))))) | (with_reducible exact And.right (And.right (And.right (And.right (And.right (And.right (And.right (And.right (And.right (And.right (And.right (And.right (And.right (And.right (And.right (And.right (And.right (And.right (by assumption))))))))))))))))))) | (with_reducible exact And.right (And.right (And.right (And.right (And.right (And.right (And.right (And.right (And.right (And.right (And.right (And.right (And.right (And.right (And.right (And.right (And.right (And.right (And.right (by assumption)))))))))))))))))))) | (with_reducible exact And.right (And.right (And.right (And.right (And.right (And.right (And.right (And.right (And.right (And.right (And.right (And.right (And.right (And.right (And.right (And.right (And.right (And.right (And.right (And.right (by assumption))))))))))))))))))))) | (with_reducible exact And.right (And.right (And.right (And.right (And.right (And.right (And.right (And.right (And.right (And.right (And.right (And.right (And.right (And.right (And.right (And.right (And.right (And.right (And.right (And.right (And.right (by assumption)))))))))))))))))))))) | (with_reducible exact And.right (And.right (And.right (And.right (And.right (And.right (And.right (And.right (And.right (And.right (And.right (And.right (And.right (And.right (And.right (And.right (And.right (And.right (And.right (And.right (And.right (And.right (by assumption))))))))))))))))))))))) | (with_reducible exact And.right (And.right (And.right (And.right (And.right (And.right (And.right (And.right (And.right (And.right (And.right (And.right (And.right (And.right (And.right (And.right (And.right (And.right (And.right (And.right (And.right (And.right (And.right (by assumption)))))))))))))))))))))))))
  k_with "TL ne0" => (refine neN ?_; (try dsimp only); first | (with_reducible assumption) | (refine Ne.symm ?_; with_reducible assumption) | (with_reducible exact And.left (by assumption)) | (with_reducible exact And.left (And.right (by assumption))) | (with_reducible exact And.left (And.right (And.right (by assumption)))) | (with_reducible exact And.left (And.right (And.right (And.right (by assumption))))) | (with_reducible exact And.left (And.right (And.right (And.right (And.right (by assumption)))))) | (with_reducible exact And.left (And.right (And.right (And.right (And.right (And.right (by assumption))))))) | (with_reducible exact Ne.symm <| And.left (by assumption)) | (with_reducible exact Ne.symm <| And.left (And.right (by assumption))) | (with_reducible exact Ne.symm <| And.left (And.right (And.right (by assumption)))) | (with_reducible exact Ne.symm <| And.left (And.right (And.right (And.right (by assumption))))) | (with_reducible exact Ne.symm <| And.left (And.right (And.right (And.right (And.right (by assumption)))))) | (with_reducible exact Ne.symm <| And.left (And.right (And.right (And.right (And.right (And.right (by assumption))))))) | (refine ne_gt ?_; k_extra "TL lt0") | (refine ne_lt ?_; k_extra "TL lt0"))
  k_with "TL le" => (first | (with_reducible assumption) | (with_reducible exact Nat.le_refl _) | (with_reducible exact Nat.succ_le_of_lt (by assumption)) | (with_reducible exact Nat.le_of_lt (by assumption)) | (with_reducible refine le_ss ?_; k_extra "TL le") | ((fail_if_success (with_reducible refine le_ss ?_)); with_reducible refine le_s ?_; k_extra "TL le") | ((fail_if_success (with_reducible refine le_s ?_)); refine le_t ?_ (by with_reducible assumption); k_extra "TL le") | ((fail_if_success (with_reducible refine le_s ?_)); refine le_t ?_ (Nat.le_of_lt (by with_reducible assumption)); k_extra "TL le"))
  k_with "TL mem" => (assumption)
  k_with "TL@ CompEnd str" => ((k_here; k_dflt (refine comp_end (by k_asm) (by k_asm) (fun _ h => h) (by assumption) (by first | assumption | trivial) ⟨_, _, by assumption, rfl⟩)))
  intro dp un gd cn cs a ccd cl outer A₀ base h₀ L m s Q E B F X N T hk hdp hu hret
  refine wpAny_call ?_
  k_dflt cell_enter
  k_with "eval ListComp" => (k_dflt (refine LCg.ListComp_U (F₀ := by k_asm) (by with_unfolding_all rfl) (by decide) (by rfl) (by decide) (by rfl) ?_))
  k_with "CompSrc BinOp nil ref" => (k_dflt (refine LCg.CompSrc.ledger (by rfl) (by k_asm) (by k_asm) (by k_mem) (by (rw [List.size_toArray, hi.length, PySem.sizeLine_eq]; omega)) ?_; intro g'; refine comp_vals (fun i y => ∃ k t, ns[i]? = some k ∧ y = .str (bead k) t) (fun i v I oI C oC D₂ m₂ ys h tk E' hin hP hC hx F' N' off' hS' ne' => ?_) (.inr ⟨_, by k_mem, rfl, _, rfl⟩) (fun ys hyl hv => ?_); obtain ⟨k, t', rfl, hk'⟩ := IntsAre.at hi i v (by simpa using hP); (have hk2 := hk3 k (List.mem_of_getElem? hk')); rotate_left; (have hys : StrsAre ys (ns.map bead) := vals_strs hv (by rw [hyl, List.size_toArray, hi.length]; omega)); rotate_left))
  k_with "call builtin:str.join nil" => (k_dflt (refine' join_listW (News.isList (by k_asm) (by k_mem)) (ys := ns.map bead) hys (by decide +kernel) ?hw ?_; (case hw => (have hbw := beads_weight hk3; rw [List.length_map]; omega))))
  k_with "binaryOp Add str str" => (k_dflt (first | (refine PyProof.Rows.add_str (fun _ _ => ?_) (add_1 (join_len hk3 hlen) (behind_len hb) (by decide))) | (refine PyProof.Rows.add_str (fun _ _ => ?_) (add_1 (lead2_len hk3 hlen hb) (show (Str.ofString "x \t").length ≤ 3 by decide +kernel) (by decide)))))
  k_with "call ref" => (k_dflt (refine' Con.use (ws_con _ _ _ _ _ (leadTxt ns behind) _ (lead_small hk3 hb hlen) (lead_ascii hk3 hb) (lead_has hk3 hb)) ?k1 ?k2 ?k3 ?k4 ?k5 ?kK ?kd ?ku ?_; (case k1 => k_asm); (case k2 => k_asm); (case k3 => k_asm); (case k4 => k_asm); (case k5 => k_asm); (case kK => first | exact rfl | assumption); (case kd => ktr_room); (case ku => ktr_units); k_whole); rw [lead_while hk3 hb]; intro x d N₂ T₂ vs₂ sb k1 k2 k3 k4 k5 tn tt tb₂ h' tk' F' N' hI₂ l1 l2 l3 l4; (try dsimp only); (try k_sweep))
  w_strict (k_steps; all_goals first
    | (refine' ret_w (hret _) rfl ?F ?Nw ?h1 ?h2 ?h3 ?h4 ?hs ?hI ?l1 ?l2 ?l3 ?l4; (case F => k_asm); (case Nw => k_asm); (case h1 => k_mem); (case h2 => k_mem); (case h3 => k_mem); (case h4 => k_mem); (case hs => kcf_all); (case hI => assumption); (case l1 => exact fun p hp => l1 p (.tail _ hp)); (case l2 => omega); (case l3 => omega); (case l4 => omega)))
end TL
end

section
open PySem PySem.W PySem.Spec PySem.Calls PyProof.Rows
set_option maxRecDepth 100000
set_option maxHeartbeats 8000000
namespace TL
/-- the name that hand k writes for a sign -/
def spK (k : Int) (c : Nat) : Str :=
  if k = 2 then (if c = 38 then Str.ofString "&amp;" else if c = 60 then Str.ofString "&lt;" else if c = 34 then Str.ofString "&quot;" else if c = 13 then Str.ofString "&#xD;" else if c = 10 then Str.ofString "&#xA;" else Str.ofString "&#x9;")
  else (if c = 38 then Str.ofString "&amp;" else if c = 60 then Str.ofString "&lt;" else if c = 62 then Str.ofString "&gt;" else if c = 34 then Str.ofString "&quot;" else if c = 13 then Str.ofString "&#13;" else if c = 10 then Str.ofString "&#10;" else Str.ofString "&#09;")
def spTxt (k : Int) (z : Str) : Str := Txt.join (Str.ofString "") (z.cps.toList.map (spK k))
theorem sg0 {c : Nat} (h : SgOf (signs 0) c) : c = 38 ∨ c = 60 ∨ c = 62 ∨ c = 34 ∨ c = 13 ∨ c = 10 ∨ c = 9 := by
  have h' : c ∈ (sgAt (signs 0) (kindAt c)).cps.toList := h
  unfold kindAt at h'
  split at h'
  · rename_i q; rcases q with rfl | rfl <;> decide
  · split at h'
    · rename_i q; subst q; decide
    · have e : (sgAt (signs 0) ((1 : Nat) : Int)).cps.toList = [38, 13, 10, 9] := by decide
      rw [e] at h'
      simp at h'; first | (subst h'; decide) | (rcases h' with rfl | rfl <;> decide) | (rcases h' with rfl | rfl | rfl <;> decide) | (rcases h' with rfl | rfl | rfl | rfl <;> decide) | omega
theorem sg1 {c : Nat} (h : SgOf (signs 1) c) : c = 38 ∨ c = 62 ∨ c = 34 := by
  have h' : c ∈ (sgAt (signs 1) (kindAt c)).cps.toList := h
  unfold kindAt at h'
  split at h'
  · have e : (sgAt (signs 1) ((0 : Nat) : Int)).cps.toList = [62] := by decide
    rw [e] at h'
    simp at h'; first | (subst h'; decide) | (rcases h' with rfl | rfl <;> decide) | (rcases h' with rfl | rfl | rfl <;> decide) | (rcases h' with rfl | rfl | rfl | rfl <;> decide) | omega
  · split at h'
    · rename_i q; subst q; decide
    · have e : (sgAt (signs 1) ((1 : Nat) : Int)).cps.toList = [38] := by decide
      rw [e] at h'
      simp at h'; first | (subst h'; decide) | (rcases h' with rfl | rfl <;> decide) | (rcases h' with rfl | rfl | rfl <;> decide) | (rcases h' with rfl | rfl | rfl | rfl <;> decide) | omega
theorem sg2 {c : Nat} (h : SgOf (signs 2) c) : c = 38 ∨ c = 60 ∨ c = 34 ∨ c = 13 ∨ c = 10 ∨ c = 9 := by
  have h' : c ∈ (sgAt (signs 2) (kindAt c)).cps.toList := h
  unfold kindAt at h'
  split at h'
  · have e : (sgAt (signs 2) ((0 : Nat) : Int)).cps.toList = [60] := by decide
    rw [e] at h'
    simp at h'; first | (subst h'; decide) | (rcases h' with rfl | rfl <;> decide) | (rcases h' with rfl | rfl | rfl <;> decide) | (rcases h' with rfl | rfl | rfl | rfl <;> decide) | omega
  · split at h'
    · rename_i q; subst q; decide
    · have e : (sgAt (signs 2) ((1 : Nat) : Int)).cps.toList = [38, 9, 10, 13] := by decide
      rw [e] at h'
      simp at h'; first | (subst h'; decide) | (rcases h' with rfl | rfl <;> decide) | (rcases h' with rfl | rfl | rfl <;> decide) | (rcases h' with rfl | rfl | rfl | rfl <;> decide) | omega
theorem flat_cons (c : Nat) (y : List Nat) (x : Nat) (l : List Nat) : flat c y (x :: l) = (if x = c then y else [x]) ++ flat c y l := rfl
theorem flat_app (c : Nat) (y : List Nat) (l r : List Nat) : flat c y (l ++ r) = flat c y l ++ flat c y r := List.flatMap_append
def escL (k : Int) (l : List Nat) : List Nat :=
  if k = 0 then flat 9 (Str.ofString "&#09;").cps.toList (flat 10 (Str.ofString "&#10;").cps.toList (flat 13 (Str.ofString "&#13;").cps.toList (flat 34 (Str.ofString "&quot;").cps.toList (flat 62 (Str.ofString "&gt;").cps.toList (flat 60 (Str.ofString "&lt;").cps.toList (flat 38 (Str.ofString "&amp;").cps.toList l))))))
  else if k = 1 then flat 34 (Str.ofString "&quot;").cps.toList (flat 62 (Str.ofString "&gt;").cps.toList (flat 38 (Str.ofString "&amp;").cps.toList l))
  else flat 13 (Str.ofString "&#xD;").cps.toList (flat 10 (Str.ofString "&#xA;").cps.toList (flat 9 (Str.ofString "&#x9;").cps.toList (flat 34 (Str.ofString "&quot;").cps.toList (flat 60 (Str.ofString "&lt;").cps.toList (flat 38 (Str.ofString "&amp;").cps.toList l)))))
theorem escK_L (k : Int) (z : Str) : (escK k z).cps.toList = escL k z.cps.toList := by
  have o : ∀ (x y : Str) (c : Nat) (s : Str), s = ⟨#[c]⟩ → (escOne s y x).cps.toList = flat c y.cps.toList x.cps.toList := fun x y c s e => by rw [e]; exact escOne_flat x y c
  unfold escK escL
  split
  · unfold escA
    rw [o _ _ 9 _ (by decide), o _ _ 10 _ (by decide), o _ _ 13 _ (by decide), o _ _ 34 _ (by decide), o _ _ 62 _ (by decide), o _ _ 60 _ (by decide), o _ _ 38 _ (by decide)]
  · split
    · unfold escH
      rw [o _ _ 34 _ (by decide), o _ _ 62 _ (by decide), o _ _ 38 _ (by decide)]
    · unfold escC
      rw [o _ _ 13 _ (by decide), o _ _ 10 _ (by decide), o _ _ 9 _ (by decide), o _ _ 34 _ (by decide), o _ _ 60 _ (by decide), o _ _ 38 _ (by decide)]
theorem escL_app (k : Int) (l r : List Nat) : escL k (l ++ r) = escL k l ++ escL k r := by
  unfold escL
  split
  · simp only [flat_app]
  · split
    · simp only [flat_app]
    · simp only [flat_app]
theorem escL_one {k : Int} (h0 : 0 ≤ k) (h2 : k ≤ 2) {c : Nat} (h : SgOf (signs k) c) : escL k [c] = (spK k c).cps.toList := by
  obtain rfl | rfl | rfl : k = 0 ∨ k = 1 ∨ k = 2 := int012 (by first | assumption | exact ⟨by assumption, by assumption⟩)
  · rcases sg0 h with rfl | rfl | rfl | rfl | rfl | rfl | rfl <;> decide
  · rcases sg1 h with rfl | rfl | rfl <;> decide
  · rcases sg2 h with rfl | rfl | rfl | rfl | rfl | rfl <;> decide
theorem escL_all {k : Int} (h0 : 0 ≤ k) (h2 : k ≤ 2) : ∀ {l : List Nat}, (∀ c ∈ l, SgOf (signs k) c) → escL k l = ((l.map (spK k)).map (·.cps.toList)).flatten
  | [], _ => by
    unfold escL
    split
    · rfl
    · split <;> rfl
  | c :: r, h => by
    have ih := escL_all h0 h2 (l := r) fun x hx => h x (.tail _ hx)
    rw [show c :: r = [c] ++ r from rfl, escL_app, ih, escL_one h0 h2 (h c (.head _))]
    rfl
theorem esc_sp {k : Int} (h0 : 0 ≤ k) (h2 : k ≤ 2) {n : Nat} {z : Str} (h : BeadsOk (signs k) n z) : escK k z = spTxt k z := by
  have e : (escK k z).cps.toList = (spTxt k z).cps.toList := by
    rw [escK_L, escL_all h0 h2 h.2, spTxt, join_empty]
  have ea : ∀ a b : Str, a.cps.toList = b.cps.toList → a = b := fun a b e => by
    cases a; cases b
    congr
    exact Array.toList_inj.mp e
  exact ea _ _ e
theorem spK_len (k : Int) (c : Nat) : 4 ≤ (spK k c).length ∧ (spK k c).length ≤ 6 := by
  unfold spK
  repeat' split
  all_goals decide
theorem sp_weight {k : Int} : ∀ l : List Nat, ((l.map (spK k)).map (·.length)).sum ≤ 6 * l.length
  | [] => Nat.le_refl _
  | c :: r => by
    have h1 := (spK_len k c).2
    have h2 := sp_weight (k := k) r
    simp only [List.map_cons, List.sum_cons, List.length_cons] at h2 ⊢
    omega
theorem sp_ascii {k : Int} (h0 : 0 ≤ k) (h2 : k ≤ 2) {n : Nat} {z : Str} (h : BeadsOk (signs k) n z) : z.cps.all (· < 128) = true := by
  rw [← Array.all_toList]
  refine List.all_eq_true.mpr fun c hc => ?_
  have hs := h.2 c hc
  obtain rfl | rfl | rfl : k = 0 ∨ k = 1 ∨ k = 2 := int012 (by first | assumption | exact ⟨by assumption, by assumption⟩)
  · rcases sg0 hs with rfl | rfl | rfl | rfl | rfl | rfl | rfl <;> decide
  · rcases sg1 hs with rfl | rfl | rfl <;> decide
  · rcases sg2 hs with rfl | rfl | rfl | rfl | rfl | rfl <;> decide
theorem vals_sp {k : Int} {z : Str} : ∀ {ys : List Value} {i : Nat}, Vals (fun i y => ∃ c t, z.cps[i]? = some c ∧ y = .str (spK k c) t) i ys → i + ys.length = z.cps.size → StrsAre ys ((z.cps.toList.drop i).map (spK k))
  | [], i, _, h => by
    rw [List.drop_eq_nil_of_le (by simp at h ⊢; omega)]
    exact .nil
  | y :: ys, i, .cons hy r, h => by
    obtain ⟨c, t, hk, rfl⟩ := hy
    have hk' : z.cps.toList[i]? = some c := by rw [Array.getElem?_toList]; exact hk
    have e : z.cps.toList.drop i = c :: z.cps.toList.drop (i + 1) := by
      obtain ⟨hlt, hk'⟩ := List.getElem?_eq_some_iff.mp hk'
      rw [List.drop_eq_getElem_cons hlt, hk']
    rw [e]
    exact .cons _ _ (vals_sp r (by rw [List.length_cons] at h; omega))
theorem item_name {prog : Program} {w : World} {A : Around} {E : Value → Shared → Prop} {s : Shared} {h₀ : Heap} {L d : Addr} {news : List (Addr × Obj)} {o : Obj} {kvs : List (Str × Value)} {x y : Str} {t : Tok} {Q : Value → Shared → Prop} {value slice : PySem.Expr}
    (N : News h₀ L s.heap news) (hp : (d, o) ∈ news) (hd : o.IsDictOf (PySem.strKind prog w) kvs) (hl : ∃ tv, valueAt kvs x = some (.str y tv)) (h : ∀ tv, Q (.str y tv) { s with toks := s.toks + 1 })
    (hs : subscripted slice false (.ref d) (.str x t) = operate [.ref d, .str x t] (getItem (.ref d) (.str x t)) := by with_unfolding_all rfl) :
    wpAny (model prog w) A (subscriptTail value slice (.ref d) (.str x t)) Q E s := by
  obtain ⟨tv, hv⟩ := hl
  exact kdt_tail (knd := PySem.strKind _ _) N hp hd (kdt_getItem N hp hd (strKind_is _ _ _ _) hv (h tv)) hs
end TL
namespace TL
def NamesOf (prog : Program) (w : World) (k : Int) (o : Obj) : Prop := ∃ kvs, o.IsDictOf (PySem.strKind prog w) kvs ∧ ∀ c, SgOf (signs k) c → ∃ tv, valueAt kvs (⟨#[c]⟩ : Str) = some (.str (spK k c) tv)
theorem names7 {prog : Program} {w : World} {o : Obj} {a1 a2 a3 a4 a5 a6 a7 b1 b2 b3 b4 b5 b6 b7 : Tok}
    (h : o.IsDictOf (PySem.strKind prog w) (strPairs [(.str (Str.ofString "&") a1, .str (Str.ofString "&amp;") b1), (.str (Str.ofString "<") a2, .str (Str.ofString "&lt;") b2), (.str (Str.ofString ">") a3, .str (Str.ofString "&gt;") b3), (.str (Str.ofString "\"") a4, .str (Str.ofString "&quot;") b4), (.str (Str.ofString "\r") a5, .str (Str.ofString "&#13;") b5), (.str (Str.ofString "\n") a6, .str (Str.ofString "&#10;") b6), (.str (Str.ofString "\t") a7, .str (Str.ofString "&#09;") b7)])) :
    NamesOf prog w 0 o ∧ NamesOf prog w 1 o := by
  refine ⟨⟨_, h, fun c hc => ?_⟩, ⟨_, h, fun c hc => ?_⟩⟩
  · rcases sg0 hc with rfl | rfl | rfl | rfl | rfl | rfl | rfl
    · exact ⟨b1, by with_unfolding_all rfl⟩
    · exact ⟨b2, by with_unfolding_all rfl⟩
    · exact ⟨b3, by with_unfolding_all rfl⟩
    · exact ⟨b4, by with_unfolding_all rfl⟩
    · exact ⟨b5, by with_unfolding_all rfl⟩
    · exact ⟨b6, by with_unfolding_all rfl⟩
    · exact ⟨b7, by with_unfolding_all rfl⟩
  · rcases sg1 hc with rfl | rfl | rfl
    · exact ⟨b1, by with_unfolding_all rfl⟩
    · exact ⟨b3, by with_unfolding_all rfl⟩
    · exact ⟨b4, by with_unfolding_all rfl⟩
theorem names6 {prog : Program} {w : World} {o : Obj} {a1 a2 a3 a4 a5 a6 b1 b2 b3 b4 b5 b6 : Tok}
    (h : o.IsDictOf (PySem.strKind prog w) (strPairs [(.str (Str.ofString "&") a1, .str (Str.ofString "&amp;") b1), (.str (Str.ofString "<") a2, .str (Str.ofString "&lt;") b2), (.str (Str.ofString "\"") a3, .str (Str.ofString "&quot;") b3), (.str (Str.ofString "\r") a4, .str (Str.ofString "&#xD;") b4), (.str (Str.ofString "\n") a5, .str (Str.ofString "&#xA;") b5), (.str (Str.ofString "\t") a6, .str (Str.ofString "&#x9;") b6)])) :
    NamesOf prog w 2 o := by
  refine ⟨_, h, fun c hc => ?_⟩
  rcases sg2 hc with rfl | rfl | rfl | rfl | rfl | rfl
  · exact ⟨b1, by with_unfolding_all rfl⟩
  · exact ⟨b2, by with_unfolding_all rfl⟩
  · exact ⟨b3, by with_unfolding_all rfl⟩
  · exact ⟨b4, by with_unfolding_all rfl⟩
  · exact ⟨b5, by with_unfolding_all rfl⟩
  · exact ⟨b6, by with_unfolding_all rfl⟩
end TL
namespace TL
def spR {k : Int} {n : Nat} {z : Str} (_ : BeadsOk (signs k) n z) (i : Nat) (y : Value) : Prop := ∃ c t, z.cps[i]? = some c ∧ y = .str (spK k c) t
theorem spR_is {k : Int} {n : Nat} {z : Str} (hz : BeadsOk (signs k) n z) {i c : Nat} {t : Tok} (hc : z.cps[i]? = some c) : spR hz i (.str (spK k c) t) := ⟨c, t, hc, rfl⟩
theorem spR_strs {k : Int} {n : Nat} {z : Str} (hz : BeadsOk (signs k) n z) {ys : List Value} (hl : ys.length = z.cps.size) (hv : Vals (spR hz) 0 ys) : StrsAre ys (z.cps.toList.map (spK k)) := vals_sp (i := 0) hv (by omega)
theorem sg_in {k : Int} {n : Nat} {z : Str} (hz : BeadsOk (signs k) n z) {i c : Nat} (hc : z.cps[i]? = some c) : SgOf (signs k) c :=
  hz.2 c (List.mem_of_getElem? (by rw [Array.getElem?_toList]; exact hc))
theorem sp_sum {k : Int} {n : Nat} {z : Str} (hz : BeadsOk (signs k) n z) (hn : n ≤ 8) : ((z.cps.toList.map (spK k)).map (·.length)).sum + (z.cps.toList.map (spK k)).length ≤ 1048576 := by
  have h1 := sp_weight (k := k) z.cps.toList
  rw [Array.length_toList, hz.1] at h1
  rw [List.length_map, Array.length_toList, hz.1]
  omega
theorem item_nameK {prog : Program} {w : World} {A : Around} {E : Value → Shared → Prop} {s : Shared} {h₀ : Heap} {L d : Addr} {news : List (Addr × Obj)} {o : Obj} {k : Int} {c : Nat} {t : Tok} {Q : Value → Shared → Prop} {value slice : PySem.Expr}
    (N : News h₀ L s.heap news) (hp : (d, o) ∈ news) (hc : SgOf (signs k) c) (hd : NamesOf prog w k o) (h : ∀ tv, Q (.str (spK k c) tv) { s with toks := s.toks + 1 })
    (hs : subscripted slice false (.ref d) (.str (⟨#[c]⟩ : Str) t) = operate [.ref d, .str (⟨#[c]⟩ : Str) t] (getItem (.ref d) (.str (⟨#[c]⟩ : Str) t)) := by with_unfolding_all rfl) :
    wpAny (model prog w) A (subscriptTail value slice (.ref d) (.str (⟨#[c]⟩ : Str) t)) Q E s := by
  obtain ⟨kvs, hd, hv⟩ := hd
  exact item_name N hp hd (hv c hc) h hs
end TL
end

section
open PySem PySem.W PySem.Spec PySem.Calls PyProof.Rows
set_option maxRecDepth 100000
set_option maxHeartbeats 8000000
namespace TL
theorem ne_of_lt_le {news : List (Addr × Obj)} {a b : Addr} (h : ∀ p ∈ news, p.1 < a) (hab : @LE.le Nat _ a b) : ∀ p ∈ news, p.1 ≠ b := fun p hp e => by have := h p hp; rw [e] at this; exact absurd this (Nat.not_lt.mpr hab)
theorem spelled_con (w : World) (mean : ExcName → Option Value) (mg mb : Str → Option Value) (news : List (Addr × Obj)) (k : Int) (t tz : Tok) (z : Str) (h0 : 0 ≤ k) (h2 : k ≤ 2) (hz : BeadsOk (signs k) 8 z) :
   Con w mean mg mb 169 5 news [.int k t, .str z tz] (RetS news (spTxt k z)) := by
  unfold Con
  k_fill
  w_top on
  w_on
  k_with_none
  k_with "TL lt0" => (first | (with_reducible assumption) | (refine lt_t ?_ (by with_reducible assumption); k_extra "TL lt0") | (with_reducible exact And.left (by assumption)) | (with_reducible exact And.left (And.right (by assumption))) | (with_reducible exact And.left (And.right (And.right (by assumption)))) | (with_reducible exact And.left (And.right (And.right (And.right (by assumption))))) | (with_reducible exact And.left (And.right (And.right (And.right (And.right (by assumption)))))) | (with_reducible exact And.left (And.right (And.right (And.right (And.right (And.right (by assumption))))))) | (with_reducible exact And.left (And.right (And.right (And.right (And.right (And.right (And.right (by assumption)))))))) | (with_reducible exact And.left (And.right (And.right (And.right (And.right (And.right (And.right (And.right (by assumption))))))))) | (with_reducible exact And.left (And.right (And.right (And.right (And.right (And.right (And.right (And.right (And.right (by assumption)))))))))) | (with_reducible exact And.left (And.right (And.right (And.right (And.right (And.right (And.right (And.right (And.right (And.right (by assumption))))))))))) | (with_reducible exact And.left (And.right (And.right (And.right (And.right (And.right (And.right (And.right (And.right (And.right (And.right (by assumption)))))))))))) | (with_reducible exact And.left (And.right (And.right (And.right (And.right (And.right (And.right (And.right (And.right (And.right (And.right (And.right (by assumption))))))))))))) | (with_reducible exact And.left (And.right (And.right (And.right (And.right (And.right (And.right (And.right (And.right (And.right (And.right (And.right (And.right (by assumption)))))))))))))) | (with_reducible exact And.left (And.right (And.right (And.right (And.right (And.right (And.right (And.right (And.right (And.right (And.right (And.right (And.right (And.right (by assumption))))))))))))))) | (with_reducible exact And.left (And.right (And.right (And.right (And.right (And.right (And.right (And.right (And.right (And.right (And.right (And.right (And.right (And.right (And.right (by assumption)))))))))))))))) | (with_reducible exact And.left (And.right (And.right (And.right (And.right (And.right (And.right (And.right (And.right (And.right (And.right (And.right (And.right (And.right (And.right (And.right (by assumption))))))))))))))))) | (with_reducible exact And.left (And.right (And.right (And.right (And.right (And.right (And.right (And.right (And.right (And.right (And.right (And.right (And.right (And.right (And.right (And.right (And.right (by assumption)))))))))))))))))) | (with_reducible exact And.left (And.right (And.right (And.right (And.right (And.right (And.right (And.right (And.right (And.right (And.right (And.right (And.right (And.right (And.right (And.right (And.right (And.right (by assumption))))))))))))))))))) | (with_reducible exact And.left (And.right (And.right (And.right (And.right (And.right (And.right (And.right (And.right (And.right (And.right (And.right (And.right (And.right (And.right (And.right (And.right (And.right (And.right (by assumption)))))))))))))))))))) | (with_reducible exact And.left (And.right (And.right (And.right (And.right (And.right (And.right (And.right (And.right (And.right (And.right (And.right (And.right (And.right (And.right (And.right (And.right (And.right (And.right (And.right (by assumption))))))))))))))))))))) | (with_reducible exact And.left (And.right (And.right (And.right (And.right (And.right (And.right (And.right (And.right (And.right (And.right (And.right (And.right (And.right (And.right (And.right (And.right (And.right (And.right (And.right (And.right (by assumption)))))))))))))))))))))) | (with_reducible exact And.left (And.right (And.right (And.right (And.right (And.right (And.right (And.right (And.right (And.right (And.right (And.right (And.right (And.right (And.right (And.right (And.right (And.right (And.right (And.right (And.right (And.right (by assumption))))))))))))))))))))))) | (with_reducible exact And.left (And.right (And.right (And.right (And.right (And.right (And.right (And.right (And.right (And.right (And.right (And.right (And.right (And.right (And.right (And.right (And.right (And.right (And.right (And.right (And.right (And.right (And.right (by assumption)))))))))))))))))))))))) | (with_reducible exact And.left (And.right (And.right (And.right (And.right (And.right (And.right (And.right (And.right (And.right (And.right (And.right (And.right (And.right (And.right (And.right (And.right (And.right (And.right (And.right (And.right (And.right (And.right (And.right (by assumption))))))))))))))))))))))))) | (with_reducible exact And.right (by assumption)) | (with_reducible exact And.right (And.right (by assumption))) | (with_reducible exact And.right (And.right (And.right (by assumption)))) | (with_reducible exact And.right (And.right (And.right (And.right (by assumption))))) | (with_reducible exact And.right (And.right (And.right (And.right (And.right (by assumption)))))) | (with_reducible exact And.right (And.right (And.right (And.right (And.right (And.right (by assumption))))))) | (with_reducible exact And.right (And.right (And.right (And.right (And.right (And.right (And.right (by assumption)))))))) | (with_reducible exact And.right (And.right (And.right (And.right (And.right (And.right (And.right (And.right (by assumption))))))))) | (with_reducible exact And.right (And.right (And.right (And.right (And.right (And.right (And.right (And.right (And.right (by assumption)))))))))) | (with_reducible exact And.right (And.right (And.right (And.right (And.right (And.right (And.right (And.right (And.right (And.right (by assumption))))))))))) | (with_reducible exact And.right (And.right (And.right (And.right (And.right (And.right (And.right (And.right (And.right (And.right (And.right (by assumption)))))))))))) | (with_reducible exact And.right (And.right (And.right (And.right (And.right (And.right (And.right (And.right (And.right (And.right (And.right (And.right (by assumption))))))))))))) | (with_reducible exact And.right (And.right (And.right (And.right (And.right (And.right (And.right (And.right (And.right (And.right (And.right (And.right (And.right (by assumption)))))))))))))) | (with_reducible exact And.right (And.right (And.right (And.right (And.right (And.right (And.right (And.right (And.right (And.right (And.right (And.right (And.right (And.right (by assumption))))))))))))))) | (with_reducible exact And.right (And.right (And.right (And.right (And.right (And.right (And.right (And.right (And.right (And.right (And.right (And.right (And.right (And.right (And.right (by assumption)))))))))))))))) | (with_reducible exact And.right (And.right (And.right (And.right (And.right (And.right (And.right (And.right (And.right (And.right (And.right (And.right (And.right (And.right (And.right (And.right (by assumption))))))))))))))))) | (with_reducible exact And.right (And.right (And.right (And.right (And.right (And.right (And.right (And.right (And.right (And.right (And.right (And.right (And.right (And.right (And.right (And.right (And.right (by assumption)))))))))))))))))) | (with_reducible exact And.right (And.right (And.right (And.right (And.right (And.right (And.right (And.right (And.right (And.right (And.right (And.right (And.right (And.right (And.right (And.right (And.right (And.right (by assumption))))))))))))))))))) | (with_reducible exact And.right (And.right (And.right (And.right (And.right (And.right (And.right (And.right (And.right (And.right (And.right (And.right (And.right (And.right (And.right (And.right (And.right (And.right (And.right (by assumption)))))))))))))))))))) | (with_reducible exact And.right (And.right (And.right (And.right (And.right (And.right (And.right (And.right (And.right (And.right (And.right (And.right (And.right (And.right (And.right (And.right (And.right (And.right (And.right (And.right (by assumption))))))))))))))))))))) | (with_reducible exact And.right (And.right (And.right (And.right (And.right (And.right (And.right (And.right (And.right (And.right (And.right (And.right (And.right (And.right (And.right (And.right (And.right (And.right (And.right (And.right (And.right (by assumption)))))))))))))))))))))) | (with_reducible exact And.right (And.right (And.right (And.right (And.right (And.right (And.right (And.right (And.right (And.right (And.right (And.right (And.right (And.right (And.right (And.right (And.right (And.right (And.right (And.right (And.right (And.right (by assumption))))))))))))))))))))))) | (with_reducible exact And.right (And.right (And.right (And.right (And.right (And.right (And.right (And.right (And.right (And.right (And.right (And.right (And.right (And.right (And.right (And.right (And.right (And.right (And.right (And.right (And.right (And.right (And.right (by assumption)))))))))))))))))))))))))
  k_with "TL ne0" => (refine neN ?_; (try dsimp only); first | (with_reducible assumption) | (refine Ne.symm ?_; with_reducible assumption) | (with_reducible exact And.left (by assumption)) | (with_reducible exact And.left (And.right (by assumption))) | (with_reducible exact And.left (And.right (And.right (by assumption)))) | (with_reducible exact And.left (And.right (And.right (And.right (by assumption))))) | (with_reducible exact And.left (And.right (And.right (And.right (And.right (by assumption)))))) | (with_reducible exact And.left (And.right (And.right (And.right (And.right (And.right (by assumption))))))) | (with_reducible exact Ne.symm <| And.left (by assumption)) | (with_reducible exact Ne.symm <| And.left (And.right (by assumption))) | (with_reducible exact Ne.symm <| And.left (And.right (And.right (by assumption)))) | (with_reducible exact Ne.symm <| And.left (And.right (And.right (And.right (by assumption))))) | (with_reducible exact Ne.symm <| And.left (And.right (And.right (And.right (And.right (by assumption)))))) | (with_reducible exact Ne.symm <| And.left (And.right (And.right (And.right (And.right (And.right (by assumption))))))) | (refine ne_gt ?_; k_extra "TL lt0") | (refine ne_lt ?_; k_extra "TL lt0"))
  k_with "TL le" => (first | (with_reducible assumption) | (with_reducible exact Nat.le_refl _) | (with_reducible exact Nat.succ_le_of_lt (by assumption)) | (with_reducible exact Nat.le_of_lt (by assumption)) | (with_reducible refine le_ss ?_; k_extra "TL le") | ((fail_if_success (with_reducible refine le_ss ?_)); with_reducible refine le_s ?_; k_extra "TL le") | ((fail_if_success (with_reducible refine le_s ?_)); refine le_t ?_ (by with_reducible assumption); k_extra "TL le") | ((fail_if_success (with_reducible refine le_s ?_)); refine le_t ?_ (Nat.le_of_lt (by with_reducible assumption)); k_extra "TL le"))
  k_with "TL all" => (first | exact ne_of_all_lt (by assumption) | exact ne_of_lt_le (by assumption) (Nat.le_succ _) | exact off1_all (by ((first | assumption | exact And.right (by assumption) | exact And.right (And.right (by assumption)) | exact And.right (And.right (And.right (by assumption))) | exact And.right (And.right (And.right (And.right (by assumption)))) | exact And.right (And.right (And.right (And.right (And.right (by assumption))))) | exact And.right (And.right (And.right (And.right (And.right (And.right (by assumption)))))) | exact And.right (And.right (And.right (And.right (And.right (And.right (And.right (by assumption)))))))))) | exact ne_of_allLt (by ((first | assumption | exact And.right (by assumption) | exact And.right (And.right (by assumption)) | exact And.right (And.right (And.right (by assumption))) | exact And.right (And.right (And.right (And.right (by assumption)))) | exact And.right (And.right (And.right (And.right (And.right (by assumption))))) | exact And.right (And.right (And.right (And.right (And.right (And.right (by assumption)))))) | exact And.right (And.right (And.right (And.right (And.right (And.right (And.right (by assumption)))))))))))
  k_with "TL mem" => (assumption)
  k_with "TL@ Exists" => (k_extra "TL made")
  k_with "TL@ eval ListComp Subscript cons" => (k_extra "TL comp")
  k_with "TL@ ite" => (k_extra "TL ite")
  k_with "TL@ StrSrc Subscript cons str" => (k_extra "TL src")
  k_with "TL@ subscriptTail Name Name ref str" => (k_extra "TL item")
  k_with "TL@ CompEnd str" => (k_extra "TL end")
  k_with "TL@ storeName ref" => (k_extra "TL store")
  intro dp un gd cn cs a ccd cl outer A₀ base h₀ L m s Q E B F X N T hk hdp hu hret
  obtain rfl | rfl | rfl : k = 0 ∨ k = 1 ∨ k = 2 := int012 (by first | assumption | exact ⟨by assumption, by assumption⟩)
  all_goals ((refine wpAny_call ?_; k_dflt (refine' code_defC ?k1 ?k2 ?k3 ?k4 ?k5 ?kA ?kF ?kK ?k6 ?k7 ?k8 ?k9 ?kB ?kD ?_ ?c2 ?c3 ?c4; (case kA => exact rfl); (case kF => exact rfl); (case kK => assumption); (case k1 => k_asm); (case k2 => k_asm); (case k3 => k_asm); (case k4 => k_asm); (case k5 => k_asm); (case k6 => k_is); (case k7 => k_is); (case k8 => ktr_room); (case k9 => exact BindsTo.of_eq rfl); (case kB => exact rfl); (case kD => decide +kernel); (case c2 => exact rfl); (case c3 => exact rfl); (case c4 => exact rfl); k_whole; intro gq9' Lq9' hq9' tkq9' cellsq9' FGq9' Fq9' Nq9' Yq9' Bq9' Xq9' Tq9' l1q9; (try k_lt l1q9); k_cells Yq9'; (try simp only [List.cons_append, List.nil_append] at Nq9'); (try dsimp only); (try k_lift Bq9'); (try k_fold))))
  k_with "TL store" => (k_dflt (refine' storeX_C ?F ?N ?c ?U ?d ?_ ?a ?b; (case a => rfl); (case b => rfl); (case F => k_asm); (case N => k_asm); (case c => rfl); (case U => k_updF); (case d => k_asm); k_whole; intro h' o' F' N' d'; (try dsimp only at N'); (try k_sweep)))
  k_with "TL made" => (refine kdp_made_str (by k_asm) (by first | k_asm | exact News.nil) (Top.nolimit (by k_asm)) (by rfl) (of_decide_eq_true (by rfl)) (by rfl) ?_; intro h' o' F' N' l1 lo' hd' hf' ap'; clear hf'; (first | (have hn' := names7 hd') | (have hn' := names6 hd')); clear hd'; (try dsimp only at N'); (try dsimp only); (try k_lt l1))
  k_with "TL ite" => (first | (with_reducible refine W.ite_neg (show ¬ ((0:Int) == 2) = true by decide) ?_) | (with_reducible refine W.ite_neg (show ¬ ((1:Int) == 2) = true by decide) ?_)  | (with_reducible refine W.ite_pos (show ((2:Int) == 2) = true by decide) ?_))
  k_with "TL comp" => (k_dflt (refine ListComp_Str (by k_asm) (by with_unfolding_all rfl) (by decide) (by rfl) (by decide) (by rfl) ?_))
  k_with "TL src" => (k_dflt (refine StrSrc.intro (by rfl) (by k_asm) (by k_asm) (sp_ascii h0 h2 hz) (by rw [hz.1, sizeLine_eq]; decide) ?_; intro g'; refine comp_vals (n := z.cps.size) (spR hz) (fun i v I oI C oC D₂ m₂ ys h tk E' hin hP hC hx F' N' off' hS' ne' => ?_) trivial (fun ys hyl hv => ?_); obtain ⟨c, u, hc, rfl⟩ := hP; rotate_left; (have hys := spR_strs hz hyl hv); rotate_left))
  k_with "TL item" => (k_dflt (refine' item_nameK ?N ?hm (sg_in hz hc) ?hn ?_; (case N => k_asm); (case hm => k_mem); (case hn => first | exact hn' | exact hn'.1 | exact hn'.2); intro tv'))
  k_with "TL end" => (k_here; k_dflt (refine comp_end (by k_asm) (by k_asm) (fun _ h => h) (by assumption) (by first | assumption | trivial) (spR_is hz hc)))
  k_with "call builtin:str.join nil" => (k_dflt (refine' join_listW (News.isList (by k_asm) (by k_mem)) hys (by decide +kernel) (sp_sum hz (by decide)) ?_))
  all_goals w_strict (k_steps; all_goals first
    | (refine' hret _ _ _ ?F (news_sub ?N ?hs); (case F => assumption); (case N => assumption); (case hs => kcf_all)))
end TL
end

section
open PySem PySem.W PySem.Spec PySem.Calls PyProof.Rows
set_option maxRecDepth 100000
set_option maxHeartbeats 8000000
namespace TL
def part (x : UInt64 × UInt64 × UInt64) : Nat → UInt64
  | 0 => x.1
  | 1 => x.2.1
  | _ => x.2.2
theorem tup3_at {x : UInt64 × UInt64 × UInt64} {t1 t2 t3 : Tok} {i : Nat} {v : Value} (hi : i < 3) (h : (#[.float x.1 t1, .float x.2.1 t2, .float x.2.2 t3] : Array Value)[i]? = some v) : ∃ t, v = .float (part x i) t := by
  match i, hi, h with
  | 0, _, h => exact ⟨t1, (Option.some.inj h).symm⟩
  | 1, _, h => exact ⟨t2, (Option.some.inj h).symm⟩
  | 2, _, h => exact ⟨t3, (Option.some.inj h).symm⟩
theorem vals3i {f : Nat → Int} {ys : List Value} (hl : ys.length = 3) (h : Vals (fun i y => ∃ t, y = .int (f i) t) 0 ys) : ∃ t0 t1 t2, ys = [.int (f 0) t0, .int (f 1) t1, .int (f 2) t2] := by
  cases h with
  | nil => cases hl
  | cons h0 r => cases r with
    | nil => cases hl
    | cons h1 r => cases r with
      | nil => cases hl
      | cons h2 r => cases r with
        | cons _ _ => simp at hl
        | nil =>
          obtain ⟨t0, rfl⟩ := h0
          obtain ⟨t1, rfl⟩ := h1
          obtain ⟨t2, rfl⟩ := h2
          exact ⟨t0, t1, t2, rfl⟩
def cntF (negative : Bool) (f : UInt64) : UInt64 :=
  if negative = true then Float64.sub 4625337554797854720 (Float64.mul f (Float64.ofInt 16)) else Float64.add (Float64.mul f (Float64.ofInt 16)) 4602678819172646912
def partsOf (hue share level : UInt64) (light negative : Bool) : UInt64 × UInt64 × UInt64 :=
  if negative = true then hlsRgb (Float64.add hue 4602678819172646912) (Float64.sub (Float64.ofInt 1) level) share else if light = true then hlsRgb hue level share else hsvRgb hue share level
def countsOf (hue share level : UInt64) (light negative : Bool) (i : Nat) : Int := Flt.toInt Float64.truncOf (cntF negative (part (partsOf hue share level light negative) i))
def cntOk (f : UInt64) : Bool := !Float64.isNaN f && !Float64.isInf f
def countsOk (hue share level : UInt64) (light negative : Bool) : Bool :=
  (negative || light || hsvOk hue share) && cntOk (cntF negative (part (partsOf hue share level light negative) 0)) && cntOk (cntF negative (part (partsOf hue share level light negative) 1)) && cntOk (cntF negative (part (partsOf hue share level light negative) 2))
theorem countsOk_at {hue share level : UInt64} {light negative : Bool} (h : countsOk hue share level light negative = true) {i : Nat} (hi : i < 3) :
    Float64.isNaN (cntF negative (part (partsOf hue share level light negative) i)) = false ∧ Float64.isInf (cntF negative (part (partsOf hue share level light negative) i)) = false := by
  unfold countsOk cntOk at h
  simp only [Bool.and_eq_true, Bool.not_eq_true'] at h
  match i, hi with
  | 0, _ => exact h.1.1.2
  | 1, _ => exact h.1.2
  | 2, _ => exact h.2
theorem countsOk_hsv {hue share level : UInt64} {light negative : Bool} (h : countsOk hue share level light negative = true) (h1 : negative = false) (h2 : light = false) : hsvOk hue share = true := by
  subst h1 h2
  unfold countsOk at h
  simp only [Bool.and_eq_true, Bool.false_or] at h
  exact h.1.1.1

abbrev RetI (news : List (Addr × Obj)) (f : Nat → Int) : Heap → Addr → (Str → Option Value) → Shared → (Value → Shared → Prop) → Prop :=
  fun h₀ L m s Q => ∀ (D : Addr) (t0 t1 t2 : Tok) (h' : Heap) (tk' : Nat), Fr h₀ L h' m → News h₀ L h' ((D, LCg.lst [.int (f 0) t0, .int (f 1) t1, .int (f 2) t2]) :: news) → LCg.Off1 D news → Q (.ref D) { s with heap := h', toks := tk' }
theorem ret_im {news all : List (Addr × Obj)} {f : Nat → Int} {h₀ h' : Heap} {L D : Addr} {m : Str → Option Value} {s : Shared} {Q : Value → Shared → Prop} {t0 t1 t2 : Tok} {tk' : Nat}
    (hret : RetI news f h₀ L m s Q) (F : Fr h₀ L h' m) (N : News h₀ L h' all) (hm : (D, LCg.lst [.int (f 0) t0, .int (f 1) t1, .int (f 2) t2]) ∈ all) (hs : ∀ p ∈ news, p ∈ all) (l : LCg.Off1 D news) :
    Q (.ref D) { s with heap := h', toks := tk' } :=
  hret D t0 t1 t2 h' tk' F (fun p hp => N p (by rcases List.mem_cons.mp hp with rfl | hp; exact hm; exact hs p hp)) l
theorem counts_con (w : World) (mean : ExcName → Option Value) (mg mb : Str → Option Value) (news : List (Addr × Obj)) (hue share level : UInt64) (light negative : Bool) (t1 t2 t3 : Tok) (hp : countsOk hue share level light negative = true) :
   Con w mean mg mb 191 4 news [.float hue t1, .float share t2, .float level t3, .bool light, .bool negative] (RetI news (countsOf hue share level light negative)) := by
  unfold Con
  k_fill
  w_top on
  w_on
  k_with_none
  k_with "TL lt0" => (first | (with_reducible assumption) | (refine lt_t ?_ (by with_reducible assumption); k_extra "TL lt0") | (with_reducible exact And.left (by assumption)) | (with_reducible exact And.left (And.right (by assumption))) | (with_reducible exact And.left (And.right (And.right (by assumption)))) | (with_reducible exact And.left (And.right (And.right (And.right (by assumption))))) | (with_reducible exact And.left (And.right (And.right (And.right (And.right (by assumption)))))) | (with_reducible exact And.left (And.right (And.right (And.right (And.right (And.right (by assumption))))))) | (with_reducible exact And.left (And.right (And.right (And.right (And.right (And.right (And.right (by assumption)))))))) | (with_reducible exact And.left (And.right (And.right (And.right (And.right (And.right (And.right (And.right (by assumption))))))))) | (with_reducible exact And.left (And.right (And.right (And.right (And.right (And.right (And.right (And.right (And.right (by assumption)))))))))) | (with_reducible exact And.left (And.right (And.right (And.right (And.right (And.right (And.right (And.right (And.right (And.right (by assumption))))))))))) | (with_reducible exact And.left (And.right (And.right (And.right (And.right (And.right (And.right (And.right (And.right (And.right (And.right (by assumption)))))))))))) | (with_reducible exact And.left (And.right (And.right (And.right (And.right (And.right (And.right (And.right (And.right (And.right (And.right (And.right (by assumption))))))))))))) | (with_reducible exact And.left (And.right (And.right (And.right (And.right (And.right (And.right (And.right (And.right (And.right (And.right (And.right (And.right (by assumption)))))))))))))) | (with_reducible exact And.left (And.right (And.right (And.right (And.right (And.right (And.right (And.right (And.right (And.right (And.right (And.right (And.right (And.right (by assumption))))))))))))))) | (with_reducible exact And.left (And.right (And.right (And.right (And.right (And.right (And.right (And.right (And.right (And.right (And.right (And.right (And.right (And.right (And.right (by assumption)))))))))))))))) | (with_reducible exact And.left (And.right (And.right (And.right (And.right (And.right (And.right (And.right (And.right (And.right (And.right (And.right (And.right (And.right (And.right (And.right (by assumption))))))))))))))))) | (with_reducible exact And.left (And.right (And.right (And.right (And.right (And.right (And.right (And.right (And.right (And.right (And.right (And.right (And.right (And.right (And.right (And.right (And.right (by assumption)))))))))))))))))) | (with_reducible exact And.left (And.right (And.right (And.right (And.right (And.right (And.right (And.right (And.right (And.right (And.right (And.right (And.right (And.right (And.right (And.right (And.right (And.right (by assumption))))))))))))))))))) | (with_reducible exact And.left (And.right (And.right (And.right (And.right (And.right (And.right (And.right (And.right (And.right (And.right (And.right (And.right (And.right (And.right (And.right (And.right (And.right (And.right (by assumption)))))))))))))))))))) | (with_reducible exact And.left (And.right (And.right (And.right (And.right (And.right (And.right (And.right (And.right (And.right (And.right (And.right (And.right (And.right (And.right (And.right (And.right (And.right (And.right (And.right (by assumption))))))))))))))))))))) | (with_reducible exact And.left (And.right (And.right (And.right (And.right (And.right (And.right (And.right (And.right (And.right (And.right (And.right (And.right (And.right (And.right (And.right (And.right (And.right (And.right (And.right (And.right (by assumption)))))))))))))))))))))) | (with_reducible exact And.left (And.right (And.right (And.right (And.right (And.right (And.right (And.right (And.right (And.right (And.right (And.right (And.right (And.right (And.right (And.right (And.right (And.right (And.right (And.right (And.right (And.right (by assumption))))))))))))))))))))))) | (with_reducible exact And.left (And.right (And.right (And.right (And.right (And.right (And.right (And.right (And.right (And.right (And.right (And.right (And.right (And.right (And.right (And.right (And.right (And.right (And.right (And.right (And.right (And.right (And.right (by assumption)))))))))))))))))))))))) | (with_reducible exact And.left (And.right (And.right (And.right (And.right (And.right (And.right (And.right (And.right (And.right (And.right (And.right (And.right (And.right (And.right (And.right (And.right (And.right (And.right (And.right (And.right (And.right (And.right (And.right (by assumption))))))))))))))))))))))))) | (with_reducible exact And.right (by assumption)) | (with_reducible exact And.right (And.right (by assumption))) | (with_reducible exact And.right (And.right (And.right (by assumption)))) | (with_reducible exact And.right (And.right (And.right (And.right (by assumption))))) | (with_reducible exact And.right (And.right (And.right (And.right (And.right (by assumption)))))) | (with_reducible exact And.right (And.right (And.right (And.right (And.right (And.right (by assumption))))))) | (with_reducible exact And.right (And.right (And.right (And.right (And.right (And.right (And.right (by assumption)))))))) | (with_reducible exact And.right (And.right (And.right (And.right (And.right (And.right (And.right (And.right (by assumption))))))))) | (with_reducible exact And.right (And.right (And.right (And.right (And.right (And.right (And.right (And.right (And.right (by assumption)))))))))) | (with_reducible exact And.right (And.right (And.right (And.right (And.right (And.right (And.right (And.right (And.right (And.right (by assumption))))))))))) | (with_reducible exact And.right (And.right (And.right (And.right (And.right (And.right (And.right (And.right (And.right (And.right (And.right (by assumption)))))))))))) | (with_reducible exact And.right (And.right (And.right (And.right (And.right (And.right (And.right (And.right (And.right (And.right (And.right (And.right (by assumption))))))))))))) | (with_reducible exact And.right (And.right (And.right (And.right (And.right (And.right (And.right (And.right (And.right (And.right (And.right (And.right (And.right (by assumption)))))))))))))) | (with_reducible exact And.right (And.right (And.right (And.right (And.right (And.right (And.right (And.right (And.right (And.right (And.right (And.right (And.right (And.right (by assumption))))))))))))))) | (with_reducible exact And.right (And.right (And.right (And.right (And.right (And.right (And.right (And.right (And.right (And.right (And.right (And.right (And.right (And.right (And.right (by assumption)))))))))))))))) | (with_reducible exact And.right (And.right (And.right (And.right (And.right (And.right (And.right (And.right (And.right (And.right (And.right (And.right (And.right (And.right (And.right (And.right (by assumption))))))))))))))))) | (with_reducible exact And.right (And.right (And.right (And.right (And.right (And.right (And.right (And.right (And.right (And.right (And.right (And.right (And.right (And.right (And.right (And.right (And.right (by assumption)))))))))))))))))) | (with_reducible exact And.right (And.right (And.right (And.right (And.right (And.right (And.right (And.right (And.right (And.right (And.right (And.right (And.right (And.right (And.right (And.right (And.right (And.right (by assumption))))))))))))))))))) | (with_reducible exact And.right (And.right (And.right (And.right (And.right (And.right (And.right (And.right (And.right (And.right (And.right (And.right (And.right (And.right (And.right (And.right (And.right (And.right (And.right (by assumption)))))))))))))))))))) | (with_reducible exact And.right (And.right (And.right (And.right (And.right (And.right (And.right (And.right (And.right (And.right (And.right (And.right (And.right (And.right (And.right (And.right (And.right (And.right (And.right (And.right (by assumption))))))))))))))))))))) | (with_reducible exact And.right (And.right (And.right (And.right (And.right (And.right (And.right (And.right (And.right (And.right (And.right (And.right (And.right (And.right (And.right (And.right (And.right (And.right (And.right (And.right (And.right (by assumption)))))))))))))))))))))) | (with_reducible exact And.right (And.right (And.right (And.right (And.right (And.right (And.right (And.right (And.right (And.right (And.right (And.right (And.right (And.right (And.right (And.right (And.right (And.right (And.right (And.right (And.right (And.right (by assumption))))))))))))))))))))))) | (with_reducible exact And.right (And.right (And.right (And.right (And.right (And.right (And.right (And.right (And.right (And.right (And.right (And.right (And.right (And.right (And.right (And.right (And.right (And.right (And.right (And.right (And.right (And.right (And.right (by assumption)))))))))))))))))))))))))
  k_with "TL ne0" => (refine neN ?_; (try dsimp only); first | (with_reducible assumption) | (refine Ne.symm ?_; with_reducible assumption) | (with_reducible exact And.left (by assumption)) | (with_reducible exact And.left (And.right (by assumption))) | (with_reducible exact And.left (And.right (And.right (by assumption)))) | (with_reducible exact And.left (And.right (And.right (And.right (by assumption))))) | (with_reducible exact And.left (And.right (And.right (And.right (And.right (by assumption)))))) | (with_reducible exact And.left (And.right (And.right (And.right (And.right (And.right (by assumption))))))) | (with_reducible exact Ne.symm <| And.left (by assumption)) | (with_reducible exact Ne.symm <| And.left (And.right (by assumption))) | (with_reducible exact Ne.symm <| And.left (And.right (And.right (by assumption)))) | (with_reducible exact Ne.symm <| And.left (And.right (And.right (And.right (by assumption))))) | (with_reducible exact Ne.symm <| And.left (And.right (And.right (And.right (And.right (by assumption)))))) | (with_reducible exact Ne.symm <| And.left (And.right (And.right (And.right (And.right (And.right (by assumption))))))) | (refine ne_gt ?_; k_extra "TL lt0") | (refine ne_lt ?_; k_extra "TL lt0"))
  k_with "TL le" => (first | (with_reducible assumption) | (with_reducible exact Nat.le_refl _) | (with_reducible exact Nat.succ_le_of_lt (by assumption)) | (with_reducible exact Nat.le_of_lt (by assumption)) | (with_reducible refine le_ss ?_; k_extra "TL le") | ((fail_if_success (with_reducible refine le_ss ?_)); with_reducible refine le_s ?_; k_extra "TL le") | ((fail_if_success (with_reducible refine le_s ?_)); refine le_t ?_ (by with_reducible assumption); k_extra "TL le") | ((fail_if_success (with_reducible refine le_s ?_)); refine le_t ?_ (Nat.le_of_lt (by with_reducible assumption)); k_extra "TL le"))
  k_with "TL mem" => (assumption)
  k_with "TL@ CompEnd int" => ((k_here; k_dflt (refine comp_end (by k_asm) (by k_asm) (fun _ h => h) (by assumption) (by first | assumption | trivial) ⟨_, rfl⟩)))
  intro dp un gd cn cs a ccd cl outer A₀ base h₀ L m s Q E B F X N T hk hdp hu hret
  refine wpAny_call ?_
  k_dflt cell_enter
  k_with "eval ListComp" => (k_dflt (refine ListComp_Tup (by k_asm) (by with_unfolding_all rfl) (by decide) (by rfl) (by decide) (by rfl) ?_))
  k_with "call ref" => (k_dflt (refine' Con.use (hls_to_rgb_con _ _ _ _ _ _ _ _ _ _ _) ?k1 ?k2 ?k3 ?k4 ?k5 ?kK ?kd ?ku ?_; (case k1 => k_asm); (case k2 => k_asm); (case k3 => k_asm); (case k4 => k_asm); (case k5 => k_asm); (case kK => first | exact rfl | assumption); (case kd => ktr_room); (case ku => ktr_units); k_whole); intro a' t1' t2' t3' h' tk' F' N' l1'; (try dsimp only); (try k_lt l1'); (try k_sweep))
  k_with "call ref" => (k_dflt (refine' Con.use (hsv_to_rgb_con _ _ _ _ _ _ _ _ _ _ _ (countsOk_hsv hp (by assumption) (by assumption))) ?k1 ?k2 ?k3 ?k4 ?k5 ?kK ?kd ?ku ?_; (case k1 => k_asm); (case k2 => k_asm); (case k3 => k_asm); (case k4 => k_asm); (case k5 => k_asm); (case kK => first | exact rfl | assumption); (case kd => ktr_room); (case ku => ktr_units); k_whole); intro a' t1' t2' t3' h' tk' F' N' l1'; (try dsimp only); (try k_lt l1'); (try k_sweep))
  k_with "TupSrc Call nil ref" => (k_dflt (refine TupSrc.intro (by rfl) (by k_asm) (by k_asm) (by k_mem) rfl ⟨_, rfl⟩ (Nat.le_of_ble_eq_true rfl) ?_; intro g' S'; first
    | ((rename negative = true => e); subst e; refine comp_vals (n := 3) (fun i y => ∃ t, y = .int (countsOf hue share level light true i) t) (fun i v I oI C oC D m₂ ys h tk E' hi hP hC hx F' N' off' hS' ne' => ?_) S' (fun ys hyl hv => ?_); obtain ⟨t', rfl⟩ := tup3_at hi hP; (have ho := countsOk_at hp hi); rotate_left; obtain ⟨t0, t1, t2, rfl⟩ := vals3i hyl hv; rotate_left)
    | ((rename negative = false => e); (rename light = true => e2); subst e; subst e2; refine comp_vals (n := 3) (fun i y => ∃ t, y = .int (countsOf hue share level true false i) t) (fun i v I oI C oC D m₂ ys h tk E' hi hP hC hx F' N' off' hS' ne' => ?_) S' (fun ys hyl hv => ?_); obtain ⟨t', rfl⟩ := tup3_at hi hP; (have ho := countsOk_at hp hi); rotate_left; obtain ⟨t0, t1, t2, rfl⟩ := vals3i hyl hv; rotate_left)
    | ((rename negative = false => e); (rename light = false => e2); subst e; subst e2; refine comp_vals (n := 3) (fun i y => ∃ t, y = .int (countsOf hue share level false false i) t) (fun i v I oI C oC D m₂ ys h tk E' hi hP hC hx F' N' off' hS' ne' => ?_) S' (fun ys hyl hv => ?_); obtain ⟨t', rfl⟩ := tup3_at hi hP; (have ho := countsOk_at hp hi); rotate_left; obtain ⟨t0, t1, t2, rfl⟩ := vals3i hyl hv; rotate_left)))
  w_strict (k_steps; all_goals first
    | (refine' ret_im hret ?F ?N ?hm ?hs ?l; (case F => assumption); (case N => assumption); (case hm => k_mem); (case hs => kcf_all); (case l => ((first | assumption | exact And.right (by assumption) | exact And.right (And.right (by assumption)) | exact And.right (And.right (And.right (by assumption))) | exact And.right (And.right (And.right (And.right (by assumption)))) | exact And.right (And.right (And.right (And.right (And.right (by assumption))))) | exact And.right (And.right (And.right (And.right (And.right (And.right (by assumption))))))))))
    | (exfalso; exact no_way (by assumption) ho.1)
    | (exfalso; exact no_way (by assumption) ho.2))
end TL
end

section
open PySem PySem.W PySem.Spec PySem.Calls PyProof.Rows
set_option maxRecDepth 100000
set_option maxHeartbeats 8000000
namespace TL

theorem item3 {prog : Program} {w : World} {A : Around} {E : Value → Shared → Prop} {s : Shared} {Q : Value → Shared → Prop} {h₀ : Heap} {L D : Addr} {all : List (Addr × Obj)} {f : Nat → Int} {t0 t1 t2 u : Tok} {i : Nat} {value slice : PySem.Expr}
    (N : News h₀ L s.heap all) (hm : (D, LCg.lst [.int (f 0) t0, .int (f 1) t1, .int (f 2) t2]) ∈ all) (hi : i < 3)
    (h : ∀ t, Q (.int (f i) t) s)
    (hs : subscripted slice false (.ref D) (.int (0 + (i : Int)) u) = operate [.ref D, .int (0 + (i : Int)) u] (getItem (.ref D) (.int (0 + (i : Int)) u)) := by with_unfolding_all rfl) :
    wpAny (model prog w) A (subscriptTail value slice (.ref D) (.int (0 + (i : Int)) u)) Q E s := by
  have hl : s.heap.IsList D ([.int (f 0) t0, .int (f 1) t1, .int (f 2) t2] : List Value).toArray := ⟨_, (N _ hm).1, rfl, _, rfl⟩
  have hx : ∃ t, ([.int (f 0) t0, .int (f 1) t1, .int (f 2) t2] : List Value)[i]? = some (.int (f i) t) := by
    match i, hi with
    | 0, _ => exact ⟨t0, rfl⟩
    | 1, _ => exact ⟨t1, rfl⟩
    | 2, _ => exact ⟨t2, rfl⟩
  obtain ⟨t, hx⟩ := hx
  have e : (0 + (i : Int)).toNat = i := by omega
  refine tail_any hl.typeIs slot_list_getitem.lookup (wpAny_getItem_list hl (by omega) (by omega) ?_ (h t)) hs
  rw [e]
  simpa using hx

def colOf (f : Nat → Int) (size : Int) : Int := size * (f 0 * ((0 : Int).fdiv size + 1) + f 1 * ((1 : Int).fdiv size + 1) + f 2 * ((2 : Int).fdiv size + 1))
theorem col_eq (f : Nat → Int) (size : Int) : size * (f 0 * ((0 + ((0 : Nat) : Int)).fdiv size + 1) + (f 1 * ((0 + ((1 : Nat) : Int)).fdiv size + 1) + (f 2 * ((0 + ((2 : Nat) : Int)).fdiv size + 1) + 0))) = colOf f size := by
  have e0 : (0 : Int) + ((0 : Nat) : Int) = 0 := by decide
  have e1 : (0 : Int) + ((1 : Nat) : Int) = 1 := by decide
  have e2 : (0 : Int) + ((2 : Nat) : Int) = 2 := by decide
  rw [e0, e1, e2, Int.add_zero, ← Int.add_assoc]
  rfl
theorem fdiv_small {i : Nat} (hi : i < 3) {size : Int} (h : 1 ≤ size) : 0 ≤ (0 + (i : Int)).fdiv size ∧ (0 + (i : Int)).fdiv size ≤ 2 := by
  rw [Int.fdiv_eq_ediv_of_nonneg _ (by omega)]
  exact ⟨Int.ediv_nonneg (by omega) (by omega), Int.le_trans (Int.ediv_le_self _ (by omega)) (by omega)⟩
theorem column_con (w : World) (mean : ExcName → Option Value) (mg mb : Str → Option Value) (news : List (Addr × Obj)) (D : Addr) (f : Nat → Int) (t0 t1 t2 t : Tok) (size : Int) (hm : (D, LCg.lst [.int (f 0) t0, .int (f 1) t1, .int (f 2) t2]) ∈ news)
    (h1 : 1 ≤ size) (h3 : size ≤ 3) :
   Con w mean mg mb 196 3 news [.ref D, .int size t] (RetV news (.int (colOf f size))) := by
  unfold Con
  k_fill
  w_top on
  w_on
  k_with_none
  k_with "TL lt0" => (first | (with_reducible assumption) | (refine lt_t ?_ (by with_reducible assumption); k_extra "TL lt0") | (with_reducible exact And.left (by assumption)) | (with_reducible exact And.left (And.right (by assumption))) | (with_reducible exact And.left (And.right (And.right (by assumption)))) | (with_reducible exact And.left (And.right (And.right (And.right (by assumption))))) | (with_reducible exact And.left (And.right (And.right (And.right (And.right (by assumption)))))) | (with_reducible exact And.left (And.right (And.right (And.right (And.right (And.right (by assumption))))))) | (with_reducible exact And.left (And.right (And.right (And.right (And.right (And.right (And.right (by assumption)))))))) | (with_reducible exact And.left (And.right (And.right (And.right (And.right (And.right (And.right (And.right (by assumption))))))))) | (with_reducible exact And.left (And.right (And.right (And.right (And.right (And.right (And.right (And.right (And.right (by assumption)))))))))) | (with_reducible exact And.left (And.right (And.right (And.right (And.right (And.right (And.right (And.right (And.right (And.right (by assumption))))))))))) | (with_reducible exact And.left (And.right (And.right (And.right (And.right (And.right (And.right (And.right (And.right (And.right (And.right (by assumption)))))))))))) | (with_reducible exact And.left (And.right (And.right (And.right (And.right (And.right (And.right (And.right (And.right (And.right (And.right (And.right (by assumption))))))))))))) | (with_reducible exact And.left (And.right (And.right (And.right (And.right (And.right (And.right (And.right (And.right (And.right (And.right (And.right (And.right (by assumption)))))))))))))) | (with_reducible exact And.left (And.right (And.right (And.right (And.right (And.right (And.right (And.right (And.right (And.right (And.right (And.right (And.right (And.right (by assumption))))))))))))))) | (with_reducible exact And.left (And.right (And.right (And.right (And.right (And.right (And.right (And.right (And.right (And.right (And.right (And.right (And.right (And.right (And.right (by assumption)))))))))))))))) | (with_reducible exact And.left (And.right (And.right (And.right (And.right (And.right (And.right (And.right (And.right (And.right (And.right (And.right (And.right (And.right (And.right (And.right (by assumption))))))))))))))))) | (with_reducible exact And.left (And.right (And.right (And.right (And.right (And.right (And.right (And.right (And.right (And.right (And.right (And.right (And.right (And.right (And.right (And.right (And.right (by assumption)))))))))))))))))) | (with_reducible exact And.left (And.right (And.right (And.right (And.right (And.right (And.right (And.right (And.right (And.right (And.right (And.right (And.right (And.right (And.right (And.right (And.right (And.right (by assumption))))))))))))))))))) | (with_reducible exact And.left (And.right (And.right (And.right (And.right (And.right (And.right (And.right (And.right (And.right (And.right (And.right (And.right (And.right (And.right (And.right (And.right (And.right (And.right (by assumption)))))))))))))))))))) | (with_reducible exact And.left (And.right (And.right (And.right (And.right (And.right (And.right (And.right (And.right (And.right (And.right (And.right (And.right (And.right (And.right (And.right (And.right (And.right (And.right (And.right (by assumption))))))))))))))))))))) | (with_reducible exact And.left (And.right (And.right (And.right (And.right (And.right (And.right (And.right (And.right (And.right (And.right (And.right (And.right (And.right (And.right (And.right (And.right (And.right (And.right (And.right (And.right (by assumption)))))))))))))))))))))) | (with_reducible exact And.left (And.right (And.right (And.right (And.right (And.right (And.right (And.right (And.right (And.right (And.right (And.right (And.right (And.right (And.right (And.right (And.right (And.right (And.right (And.right (And.right (And.right (by assumption))))))))))))))))))))))) | (with_reducible exact And.left (And.right (And.right (And.right (And.right (And.right (And.right (And.right (And.right (And.right (And.right (And.right (And.right (And.right (And.right (And.right (And.right (And.right (And.right (And.right (And.right (And.right (And.right (by assumption)))))))))))))))))))))))) | (with_reducible exact And.left (And.right (And.right (And.right (And.right (And.right (And.right (And.right (And.right (And.right (And.right (And.right (And.right (And.right (And.right (And.right (And.right (And.right (And.right (And.right (And.right (And.right (And.right (And.right (by assumption))))))))))))))))))))))))) | (with_reducible exact And.right (by assumption)) | (with_reducible exact And.right (And.right (by assumption))) | (with_reducible exact And.right (And.right (And.right (by assumption)))) | (with_reducible exact And.right (And.right (And.right (And.right (by assumption))))) | (with_reducible exact And.right (And.right (And.right (And.right (And.right (by assumption)))))) | (with_reducible exact And.right (And.right (And.right (And.right (And.right (And.right (by assumption))))))) | (with_reducible exact And.right (And.right (And.right (And.right (And.right (And.right (And.right (by assumption)))))))) | (with_reducible exact And.right (And.right (And.right (And.right (And.right (And.right (And.right (And.right (by assumption))))))))) | (with_reducible exact And.right (And.right (And.right (And.right (And.right (And.right (And.right (And.right (And.right (by assumption)))))))))) | (with_reducible exact And.right (And.right (And.right (And.right (And.right (And.right (And.right (And.right (And.right (And.right (by assumption))))))))))) | (with_reducible exact And.right (And.right (And.right (And.right (And.right (And.right (And.right (And.right (And.right (And.right (And.right (by assumption)))))))))))) | (with_reducible exact And.right (And.right (And.right (And.right (And.right (And.right (And.right (And.right (And.right (And.right (And.right (And.right (by assumption))))))))))))) | (with_reducible exact And.right (And.right (And.right (And.right (And.right (And.right (And.right (And.right (And.right (And.right (And.right (And.right (And.right (by assumption)))))))))))))) | (with_reducible exact And.right (And.right (And.right (And.right (And.right (And.right (And.right (And.right (And.right (And.right (And.right (And.right (And.right (And.right (by assumption))))))))))))))) | (with_reducible exact And.right (And.right (And.right (And.right (And.right (And.right (And.right (And.right (And.right (And.right (And.right (And.right (And.right (And.right (And.right (by assumption)))))))))))))))) | (with_reducible exact And.right (And.right (And.right (And.right (And.right (And.right (And.right (And.right (And.right (And.right (And.right (And.right (And.right (And.right (And.right (And.right (by assumption))))))))))))))))) | (with_reducible exact And.right (And.right (And.right (And.right (And.right (And.right (And.right (And.right (And.right (And.right (And.right (And.right (And.right (And.right (And.right (And.right (And.right (by assumption)))))))))))))))))) | (with_reducible exact And.right (And.right (And.right (And.right (And.right (And.right (And.right (And.right (And.right (And.right (And.right (And.right (And.right (And.right (And.right (And.right (And.right (And.right (by assumption))))))))))))))))))) | (with_reducible exact And.right (And.right (And.right (And.right (And.right (And.right (And.right (And.right (And.right (And.right (And.right (And.right (And.right (And.right (And.right (And.right (And.right (And.right (And.right (by assumption)))))))))))))))))))) | (with_reducible exact And.right (And.right (And.right (And.right (And.right (And.right (And.right (And.right (And.right (And.right (And.right (And.right (And.right (And.right (And.right (And.right (And.right (And.right (And.right (And.right (by assumption))))))))))))))))))))) | (with_reducible exact And.right (And.right (And.right (And.right (And.right (And.right (And.right (And.right (And.right (And.right (And.right (And.right (And.right (And.right (And.right (And.right (And.right (And.right (And.right (And.right (And.right (by assumption)))))))))))))))))))))) | (with_reducible exact And.right (And.right (And.right (And.right (And.right (And.right (And.right (And.right (And.right (And.right (And.right (And.right (And.right (And.right (And.right (And.right (And.right (And.right (And.right (And.right (And.right (And.right (by assumption))))))))))))))))))))))) | (with_reducible exact And.right (And.right (And.right (And.right (And.right (And.right (And.right (And.right (And.right (And.right (And.right (And.right (And.right (And.right (And.right (And.right (And.right (And.right (And.right (And.right (And.right (And.right (And.right (by assumption)))))))))))))))))))))))))
  k_with "TL ne0" => (refine neN ?_; (try dsimp only); first | (with_reducible assumption) | (refine Ne.symm ?_; with_reducible assumption) | (with_reducible exact And.left (by assumption)) | (with_reducible exact And.left (And.right (by assumption))) | (with_reducible exact And.left (And.right (And.right (by assumption)))) | (with_reducible exact And.left (And.right (And.right (And.right (by assumption))))) | (with_reducible exact And.left (And.right (And.right (And.right (And.right (by assumption)))))) | (with_reducible exact And.left (And.right (And.right (And.right (And.right (And.right (by assumption))))))) | (with_reducible exact Ne.symm <| And.left (by assumption)) | (with_reducible exact Ne.symm <| And.left (And.right (by assumption))) | (with_reducible exact Ne.symm <| And.left (And.right (And.right (by assumption)))) | (with_reducible exact Ne.symm <| And.left (And.right (And.right (And.right (by assumption))))) | (with_reducible exact Ne.symm <| And.left (And.right (And.right (And.right (And.right (by assumption)))))) | (with_reducible exact Ne.symm <| And.left (And.right (And.right (And.right (And.right (And.right (by assumption))))))) | (refine ne_gt ?_; k_extra "TL lt0") | (refine ne_lt ?_; k_extra "TL lt0"))
  k_with "TL le" => (first | (with_reducible assumption) | (with_reducible exact Nat.le_refl _) | (with_reducible exact Nat.succ_le_of_lt (by assumption)) | (with_reducible exact Nat.le_of_lt (by assumption)) | (with_reducible refine le_ss ?_; k_extra "TL le") | ((fail_if_success (with_reducible refine le_ss ?_)); with_reducible refine le_s ?_; k_extra "TL le") | ((fail_if_success (with_reducible refine le_s ?_)); refine le_t ?_ (by with_reducible assumption); k_extra "TL le") | ((fail_if_success (with_reducible refine le_s ?_)); refine le_t ?_ (Nat.le_of_lt (by with_reducible assumption)); k_extra "TL le"))
  k_with "TL mem" => (assumption)
  k_with "TL@ CompEnd int" => ((k_here; k_dflt (refine comp_end (by k_asm) (by k_asm) (fun _ h => h) (by assumption) (by first | assumption | trivial) ⟨_, rfl⟩)))
  intro dp un gd cn cs a ccd cl outer A₀ base h₀ L m s Q E B F X N T hk hdp hu hret
  ((refine wpAny_call ?_; k_dflt (refine' code_defC ?k1 ?k2 ?k3 ?k4 ?k5 ?kA ?kF ?kK ?k6 ?k7 ?k8 ?k9 ?kB ?kD ?_ ?c2 ?c3 ?c4; (case kA => exact rfl); (case kF => exact rfl); (case kK => assumption); (case k1 => k_asm); (case k2 => k_asm); (case k3 => k_asm); (case k4 => k_asm); (case k5 => k_asm); (case k6 => k_is); (case k7 => k_is); (case k8 => ktr_room); (case k9 => exact BindsTo.of_eq rfl); (case kB => exact rfl); (case kD => decide +kernel); (case c2 => exact rfl); (case c3 => exact rfl); (case c4 => exact rfl); k_whole; intro gq9' Lq9' hq9' tkq9' cellsq9' FGq9' Fq9' Nq9' Yq9' Bq9' Xq9' Tq9' l1q9; (try k_lt l1q9); k_cells Yq9'; (try simp only [List.cons_append, List.nil_append] at Nq9'); (try dsimp only); (try k_lift Bq9'); (try k_fold))))
  k_with "CompSrc BinOp cons ref" => (k_dflt (refine LCg.CompSrc.range (by rfl) (by k_asm) (by k_asm) (by assumption) (by first | decide | rfl) (by first | rfl | decide) (by first | size_fits | exact Nat.le_of_ble_eq_true rfl) ?_; intro g'; refine comp_vals (n := 3) (fun i y => ∃ t, y = .int (f i * ((0 + (i : Int)).fdiv size + 1)) t) (fun i v I oI C oC D₂ m₂ ys h tk E' hi hP hC hx F' N' off' hS' ne' => ?_) trivial (fun ys hyl hv => ?_); obtain ⟨t', rfl⟩ := hP; (have hq := fdiv_small hi h1); rotate_left; obtain ⟨t0, t1, t2, rfl⟩ := vals3i hyl hv; rotate_left))
  k_with "subscriptTail Name Name ref int" => (k_dflt (refine' item3 (f := f) ?N ?hm ?hi ?_ ?hs; (case N => k_asm); (case hm => k_mem); (case hi => assumption); (case hs => with_unfolding_all rfl)); intro tq)
  w_strict (k_steps; all_goals first
    | (refine cb_retI hret ?e (by assumption) (cb_drop (by assumption) ?hs); (case hs => kcf_all); (case e => exact col_eq f size)))
end TL
end

section
open PySem PySem.W PySem.Spec PySem.Calls PyProof.Rows
set_option linter.unusedVariables false
set_option maxRecDepth 100000
set_option maxHeartbeats 8000000
namespace TL
section
variable {prog : Program} {w : World} {A A₀ : Around} {s : Shared} {h₀ base : Heap} {L : Addr} {m : Str → Option Value} {news : List (Addr × Obj)}
/-- a def with cells is entered, and no token is taken back -/
theorem callX_T {env : Env} {outer : List Env} {R : Result → Shared → Prop} {name qual : Str} {params : Arguments} {body : List Stmt} {scope : Scope} {dV kV doc pm cdv ct : Value} {an : Option Addr} {fo : Obj} {f : Addr} {args : Args} {binds : List (Str × Value)}
    (B : Below A₀ base outer h₀) (F : Fr h₀ L s.heap m) (N : News h₀ L s.heap news) (hlim : h₀.NoLimit) (hA : A.frames = some (env :: outer)) (hf : env.frame = some L) (hke : env.scope.kind = .function)
    (ho : s.heap.get? f = some fo) (hd : fo.data = .func (fnX name qual params body scope [] dV kV doc pm an cdv ct)) (hcd : s.heap.CodeRec cdv qual) (hroom : A.depth < recursionLimit)
    (hbind : BindsTo s (fnX name qual params body scope [] dV kV doc pm an cdv ct) args binds)
    (hkind : ∀ n, ∀ x ∈ binds, scope.names.lookup x.1 = some .local ∨ (scope.names.lookup x.1 = some .cell ∧ ((cellsFrom n scope.names []).lookup x.1).isSome = true))
    (hnd : ((cellsFrom 0 scope.names []).map (·.1)).Nodup)
    (h : ∀ g L' h₁ tk cells, s.toks ≤ tk → Fr h₀ L g m → Fr g L' h₁ (bindL (envOfC qual scope L' f cdv).kindOf binds fun _ => none) → News g L' h₁ (cells ++ news) →
      CellsAre (bindC (envOfC qual scope L' f cdv).kindOf binds fun _ => none) (cellsFrom (L' + 1) scope.names []) cells → Below A base (env :: outer) g → h₀.StaysIn g → (∀ p ∈ news, p.1 < L') →
      wpAny (model prog w) (A.deeper (envOfC qual scope L' f cdv)) (execs body (envOfC qual scope L' f cdv))
        (fun fl s' => LeaveK h₀ L m g R (match fl with | .ret v => v | _ => .none) s')
        (fun e s' => wpAny (model prog w) (A.deeper (envOfC qual scope L' f cdv)) (leaving (envOfC qual scope L' f cdv) e) (fun _ s'' => R (.error e) s'') (fun e' s'' => R (.error e') s'') s')
        { s with heap := h₁, toks := tk })
    (hco : scope.isCoroutine = false) (hgen : scope.isGenerator = false) (hk : scope.kind = .function) : codeAny (model prog w) A (.call (.ref f) args) R s := by
  obtain ⟨FG, BG, st, lv⟩ := groundX (R := R) B F N hA hf hke
  refine codeAny_call_function hroom ho hd hco hgen rfl hcd (hbind _ _ _ _ (toks_up (wpAny_newFunctionEnv_cells hk (hkind _) fun env' he s' x htk => ?_)))
  subst he
  refine ⟨(hlim.keeps F.keep).keeps x.toInCall.keep, codeAny_func ?_⟩
  obtain ⟨h₁, tk, rfl, _⟩ := x.done
  dsimp only at htk
  have hk₁ := x.toInCall.keep
  obtain ⟨cells, NC, Y⟩ := Cl.news (h₀ := s.heap) (Nat.le_refl _) fun n c hm => ⟨x.cell n c (lookup_of_mem_nodup (cellsFrom_names scope.names 0 (s.heap.objs.size + 1) [] [] rfl ▸ hnd) hm), x.above n c hm⟩
  have hN : News (hideAll s.heap (news.map (·.1))) s.heap.objs.size h₁ (cells ++ news) := by
    intro p hp
    rcases List.mem_append.mp hp with hp | hp
    · refine ⟨(NC p hp).1, (NC p hp).2.1, ?_⟩
      cases q : (hideAll s.heap (news.map (·.1))).get? p.1 with
      | none => rfl
      | some o => have := of_hideAll _ q; rw [(NC p hp).2.2] at this; cases this
    · exact ⟨hk₁ _ _ (N p hp).1, Nat.ne_of_lt (Heap.lt_size (N p hp).1), hideAll_none _ (List.mem_map_of_mem hp)⟩
  exact wpAny_mono (h _ s.heap.objs.size h₁ tk cells htk FG ⟨x.toInCall.ns, fun b o e => hk₁ b o (of_hideAll _ e), Nat.le_of_eq (hideAll_size _ _)⟩ hN Y BG st fun p hp => Heap.lt_size (N p hp).1) (fun fl s' hl => lv _ _ hl) fun _ _ y => y
variable {K : Frag} {p : Program} {loose : List Str} {mean : ExcName → Option Value} {mg mb : Str → Option Value}
theorem code_defT {env : Env} {outer : List Env} {R : Result → Shared → Prop} {name qual : Str} {params : Arguments} {body : List Stmt} {scope : Scope} {dV kV doc pm cdv ct oc : Value} {an od : Option Addr} {osl : Array (Option Value)} {f : Addr} {args : Args} {binds : List (Str × Value)}
    (B : Below A₀ base outer h₀) (F : Fr h₀ L s.heap m) (X₀ : K.In h₀) (N : News h₀ L s.heap news) (T : Top p loose mean mg mb h₀) (hA : A.frames = some (env :: outer)) (hf : env.frame = some L) (hke : env.scope.kind = .function)
    (ho : K.lookup f = some ⟨oc, od, .func (fnOf name qual params body scope dV kV doc pm an cdv ct), osl⟩) (hcd : codeIn K cdv qual = true) (hroom : A.depth < recursionLimit)
    (hbind : BindsTo s (fnOf name qual params body scope dV kV doc pm an cdv ct) args binds) (hkind : (binds.all fun y => scope.names.lookup y.1 == some .local || scope.names.lookup y.1 == some .cell) = true)
    (hnd : ((cellsFrom 0 scope.names []).map (·.1)).Nodup)
    (h : ∀ g L' h₁ tk cells, s.toks ≤ tk → Fr h₀ L g m → Fr g L' h₁ (bindL (envOfC qual scope L' f cdv).kindOf binds fun _ => none) → News g L' h₁ (cells ++ news) →
      CellsAre (bindC (envOfC qual scope L' f cdv).kindOf binds fun _ => none) (cellsFrom (L' + 1) scope.names []) cells → Below A base (env :: outer) g → K.In g → Top p loose mean mg mb g → (∀ p ∈ news, p.1 < L') →
      wpAny (model prog w) (A.deeper (envOfC qual scope L' f cdv)) (execs body (envOfC qual scope L' f cdv))
        (fun fl s' => LeaveK h₀ L m g R (match fl with | .ret v => v | _ => .none) s')
        (fun e s' => wpAny (model prog w) (A.deeper (envOfC qual scope L' f cdv)) (leaving (envOfC qual scope L' f cdv) e) (fun _ s'' => R (.error e) s'') (fun e' s'' => R (.error e') s'') s')
        { s with heap := h₁, toks := tk })
    (hco : scope.isCoroutine = false) (hgen : scope.isGenerator = false) (hk : scope.kind = .function) : codeAny (model prog w) A (.call (.ref f) args) R s :=
  callX_T B F N T.nolimit hA hf hke ((X₀.keeps F.keep) _ _ ho) rfl (codeRec_of (X₀.keeps F.keep) hcd) hroom hbind (kindsX hkind) hnd (fun g L' h₁ tk cells ht FG F' N' Y B' st l => h g L' h₁ tk cells ht FG F' N' Y B' (X₀.keeps st) (T.keeps st) l) hco hgen hk
end
end TL
end

section
open PySem PySem.W PySem.Spec PySem.Calls PyProof.Rows
set_option maxRecDepth 100000
set_option maxHeartbeats 8000000
namespace TL

/-- c sixteenths -/
def six (c : Nat) : UInt64 := Float64.ofFrac false c 16
theorem div16 {prog : Program} {w : World} {A : Around} {E : Value → Shared → Prop} {s : Shared} {t u : Tok} {Q : Value → Shared → Prop} {c : Nat} (hA : A.handled = none) (hc : c < 2 ^ 1023)
    (h : Q (.float (six c) s.toks) { s with toks := s.toks + 1 }) : wpAny (model prog w) A (binaryOp .Div (.int ((c : Nat) : Int) t) (.int 16 u)) Q E s := by
  refine Flt.div_ii_fits hA (by simpa using hc) (fun h => absurd h (by decide)) (fun _ _ => ?_)
  have e : (decide (((c : Nat) : Int) < 0) != decide ((16 : Int) < 0)) = false := by
    have : ¬ (((c : Nat) : Int) < 0) := by omega
    simp [this]
  rw [e]
  exact h

theorem vals3 {f : Nat → UInt64} {ys : List Value} (hl : ys.length = 3) (h : Vals (fun i y => ∃ t, y = .float (f i) t) 0 ys) : ∃ t0 t1 t2, ys = [.float (f 0) t0, .float (f 1) t1, .float (f 2) t2] := by
  cases h with
  | nil => cases hl
  | cons h0 r => cases r with
    | nil => cases hl
    | cons h1 r => cases r with
      | nil => cases hl
      | cons h2 r => cases r with
        | cons _ _ => simp at hl
        | nil =>
          obtain ⟨t0, rfl⟩ := h0
          obtain ⟨t1, rfl⟩ := h1
          obtain ⟨t2, rfl⟩ := h2
          exact ⟨t0, t1, t2, rfl⟩


def hueOf (ns : List Int) (light : Bool) : UInt64 × UInt64 × UInt64 :=
  if light = true then ((hlsOf (six (ns.count 0)) (six (ns.count 1)) (six (ns.count 2))).1, (hlsOf (six (ns.count 0)) (six (ns.count 1)) (six (ns.count 2))).2.2, (hlsOf (six (ns.count 0)) (six (ns.count 1)) (six (ns.count 2))).2.1)
  else hsvOf (six (ns.count 0)) (six (ns.count 1)) (six (ns.count 2))
def huePre (ns : List Int) (light : Bool) : Bool :=
  if light = true then hlsPre (six (ns.count 0)) (six (ns.count 1)) (six (ns.count 2)) else hsvPre (six (ns.count 0)) (six (ns.count 1)) (six (ns.count 2))

theorem ret_tmT {news all : List (Addr × Obj)} {R : UInt64 × UInt64 × UInt64} {h₀ h' : Heap} {L a : Addr} {m : Str → Option Value} {s : Shared} {Q : Value → Shared → Prop} {x y z : UInt64} {t1 t2 t3 : Tok} {tk' : Nat}
    (hret : RetTT news R h₀ L m s Q) (F : Fr h₀ L h' m) (N : News h₀ L h' all) (hm : (a, ({ cls := .type "tuple", data := .seq #[.float x t1, .float y t2, .float z t3] } : Obj)) ∈ all) (hs : ∀ p ∈ news, p ∈ all) (l : ∀ p ∈ news, p.1 < a) (e : (x, y, z) = R) (ht : TokT s.toks tk' t1 t2 t3) :
    Q (.ref a) { s with heap := h', toks := tk' } := by
  subst e
  exact hret a t1 t2 t3 h' tk' F (fun p hp => N p (by rcases List.mem_cons.mp hp with rfl | hp; exact hm; exact hs p hp)) l ht
theorem tokT_mono {n n' k k' t1 t2 t3 : Nat} (h : TokT n k t1 t2 t3) (h1 : n' ≤ n) (h2 : k ≤ k') : TokT n' k' t1 t2 t3 := by
  obtain ⟨a, b, c, d, e, f, g⟩ := h
  exact ⟨Nat.le_trans h1 a, Nat.lt_of_lt_of_le b h2, Nat.le_trans h1 c, Nat.lt_of_lt_of_le d h2, e, f, g⟩
theorem ret_tm {news all : List (Addr × Obj)} {R : UInt64 × UInt64 × UInt64} {h₀ h' : Heap} {L a : Addr} {m : Str → Option Value} {s : Shared} {Q : Value → Shared → Prop} {x y z : UInt64} {t1 t2 t3 : Tok} {tk' : Nat}
    (hret : RetT news R h₀ L m s Q) (F : Fr h₀ L h' m) (N : News h₀ L h' all) (hm : (a, ({ cls := .type "tuple", data := .seq #[.float x t1, .float y t2, .float z t3] } : Obj)) ∈ all) (hs : ∀ p ∈ news, p ∈ all) (l : ∀ p ∈ news, p.1 < a) (e : (x, y, z) = R) :
    Q (.ref a) { s with heap := h', toks := tk' } := by
  subst e
  exact hret a t1 t2 t3 h' tk' F (fun p hp => N p (by rcases List.mem_cons.mp hp with rfl | hp; exact hm; exact hs p hp)) l

theorem vals3t {f : Nat → UInt64} {ys : List Value} (hl : ys.length = 3) (h : Vals (fun i y => ∃ t, t ≠ 0 ∧ y = .float (f i) t) 0 ys) : ∃ t0 t1 t2, t0 ≠ 0 ∧ t1 ≠ 0 ∧ t2 ≠ 0 ∧ ys = [.float (f 0) t0, .float (f 1) t1, .float (f 2) t2] := by
  cases h with
  | nil => cases hl
  | cons h0 r => cases r with
    | nil => cases hl
    | cons h1 r => cases r with
      | nil => cases hl
      | cons h2 r => cases r with
        | cons _ _ => simp at hl
        | nil =>
          obtain ⟨t0, z0, rfl⟩ := h0
          obtain ⟨t1, z1, rfl⟩ := h1
          obtain ⟨t2, z2, rfl⟩ := h2
          exact ⟨t0, t1, t2, z0, z1, z2, rfl⟩
theorem seen_con (w : World) (mean : ExcName → Option Value) (mg mb : Str → Option Value) (news : List (Addr × Obj)) (l : Addr) (vs : List Value) (ns : List Int) (light : Bool)
    {n : Nat} (hl : (l, W.listOf vs.toArray n) ∈ news) (hi : IntsAre vs ns) (hlen : ns.length ≤ 8) (hp : huePre ns light = true) :
   Con w mean mg mb 186 3 news [.ref l, .bool light] (RetTT news (hueOf ns light)) := by
  unfold Con
  k_fill
  w_top on
  w_on
  k_with_none
  k_with "TL lt0" => (first | (with_reducible assumption) | (refine lt_t ?_ (by with_reducible assumption); k_extra "TL lt0") | (with_reducible exact And.left (by assumption)) | (with_reducible exact And.left (And.right (by assumption))) | (with_reducible exact And.left (And.right (And.right (by assumption)))) | (with_reducible exact And.left (And.right (And.right (And.right (by assumption))))) | (with_reducible exact And.left (And.right (And.right (And.right (And.right (by assumption)))))) | (with_reducible exact And.left (And.right (And.right (And.right (And.right (And.right (by assumption))))))) | (with_reducible exact And.left (And.right (And.right (And.right (And.right (And.right (And.right (by assumption)))))))) | (with_reducible exact And.left (And.right (And.right (And.right (And.right (And.right (And.right (And.right (by assumption))))))))) | (with_reducible exact And.left (And.right (And.right (And.right (And.right (And.right (And.right (And.right (And.right (by assumption)))))))))) | (with_reducible exact And.left (And.right (And.right (And.right (And.right (And.right (And.right (And.right (And.right (And.right (by assumption))))))))))) | (with_reducible exact And.left (And.right (And.right (And.right (And.right (And.right (And.right (And.right (And.right (And.right (And.right (by assumption)))))))))))) | (with_reducible exact And.left (And.right (And.right (And.right (And.right (And.right (And.right (And.right (And.right (And.right (And.right (And.right (by assumption))))))))))))) | (with_reducible exact And.left (And.right (And.right (And.right (And.right (And.right (And.right (And.right (And.right (And.right (And.right (And.right (And.right (by assumption)))))))))))))) | (with_reducible exact And.left (And.right (And.right (And.right (And.right (And.right (And.right (And.right (And.right (And.right (And.right (And.right (And.right (And.right (by assumption))))))))))))))) | (with_reducible exact And.left (And.right (And.right (And.right (And.right (And.right (And.right (And.right (And.right (And.right (And.right (And.right (And.right (And.right (And.right (by assumption)))))))))))))))) | (with_reducible exact And.left (And.right (And.right (And.right (And.right (And.right (And.right (And.right (And.right (And.right (And.right (And.right (And.right (And.right (And.right (And.right (by assumption))))))))))))))))) | (with_reducible exact And.left (And.right (And.right (And.right (And.right (And.right (And.right (And.right (And.right (And.right (And.right (And.right (And.right (And.right (And.right (And.right (And.right (by assumption)))))))))))))))))) | (with_reducible exact And.left (And.right (And.right (And.right (And.right (And.right (And.right (And.right (And.right (And.right (And.right (And.right (And.right (And.right (And.right (And.right (And.right (And.right (by assumption))))))))))))))))))) | (with_reducible exact And.left (And.right (And.right (And.right (And.right (And.right (And.right (And.right (And.right (And.right (And.right (And.right (And.right (And.right (And.right (And.right (And.right (And.right (And.right (by assumption)))))))))))))))))))) | (with_reducible exact And.left (And.right (And.right (And.right (And.right (And.right (And.right (And.right (And.right (And.right (And.right (And.right (And.right (And.right (And.right (And.right (And.right (And.right (And.right (And.right (by assumption))))))))))))))))))))) | (with_reducible exact And.left (And.right (And.right (And.right (And.right (And.right (And.right (And.right (And.right (And.right (And.right (And.right (And.right (And.right (And.right (And.right (And.right (And.right (And.right (And.right (And.right (by assumption)))))))))))))))))))))) | (with_reducible exact And.left (And.right (And.right (And.right (And.right (And.right (And.right (And.right (And.right (And.right (And.right (And.right (And.right (And.right (And.right (And.right (And.right (And.right (And.right (And.right (And.right (And.right (by assumption))))))))))))))))))))))) | (with_reducible exact And.left (And.right (And.right (And.right (And.right (And.right (And.right (And.right (And.right (And.right (And.right (And.right (And.right (And.right (And.right (And.right (And.right (And.right (And.right (And.right (And.right (And.right (And.right (by assumption)))))))))))))))))))))))) | (with_reducible exact And.left (And.right (And.right (And.right (And.right (And.right (And.right (And.right (And.right (And.right (And.right (And.right (And.right (And.right (And.right (And.right (And.right (And.right (And.right (And.right (And.right (And.right (And.right (And.right (by assumption))))))))))))))))))))))))) | (with_reducible exact And.right (by assumption)) | (with_reducible exact And.right (And.right (by assumption))) | (with_reducible exact And.right (And.right (And.right (by assumption)))) | (with_reducible exact And.right (And.right (And.right (And.right (by assumption))))) | (with_reducible exact And.right (And.right (And.right (And.right (And.right (by assumption)))))) | (with_reducible exact And.right (And.right (And.right (And.right (And.right (And.right (by assumption))))))) | (with_reducible exact And.right (And.right (And.right (And.right (And.right (And.right (And.right (by assumption)))))))) | (with_reducible exact And.right (And.right (And.right (And.right (And.right (And.right (And.right (And.right (by assumption))))))))) | (with_reducible exact And.right (And.right (And.right (And.right (And.right (And.right (And.right (And.right (And.right (by assumption)))))))))) | (with_reducible exact And.right (And.right (And.right (And.right (And.right (And.right (And.right (And.right (And.right (And.right (by assumption))))))))))) | (with_reducible exact And.right (And.right (And.right (And.right (And.right (And.right (And.right (And.right (And.right (And.right (And.right (by assumption)))))))))))) | (with_reducible exact And.right (And.right (And.right (And.right (And.right (And.right (And.right (And.right (And.right (And.right (And.right (And.right (by assumption))))))))))))) | (with_reducible exact And.right (And.right (And.right (And.right (And.right (And.right (And.right (And.right (And.right (And.right (And.right (And.right (And.right (by assumption)))))))))))))) | (with_reducible exact And.right (And.right (And.right (And.right (And.right (And.right (And.right (And.right (And.right (And.right (And.right (And.right (And.right (And.right (by assumption))))))))))))))) | (with_reducible exact And.right (And.right (And.right (And.right (And.right (And.right (And.right (And.right (And.right (And.right (And.right (And.right (And.right (And.right (And.right (by assumption)))))))))))))))) | (with_reducible exact And.right (And.right (And.right (And.right (And.right (And.right (And.right (And.right (And.right (And.right (And.right (And.right (And.right (And.right (And.right (And.right (by assumption))))))))))))))))) | (with_reducible exact And.right (And.right (And.right (And.right (And.right (And.right (And.right (And.right (And.right (And.right (And.right (And.right (And.right (And.right (And.right (And.right (And.right (by assumption)))))))))))))))))) | (with_reducible exact And.right (And.right (And.right (And.right (And.right (And.right (And.right (And.right (And.right (And.right (And.right (And.right (And.right (And.right (And.right (And.right (And.right (And.right (by assumption))))))))))))))))))) | (with_reducible exact And.right (And.right (And.right (And.right (And.right (And.right (And.right (And.right (And.right (And.right (And.right (And.right (And.right (And.right (And.right (And.right (And.right (And.right (And.right (by assumption)))))))))))))))))))) | (with_reducible exact And.right (And.right (And.right (And.right (And.right (And.right (And.right (And.right (And.right (And.right (And.right (And.right (And.right (And.right (And.right (And.right (And.right (And.right (And.right (And.right (by assumption))))))))))))))))))))) | (with_reducible exact And.right (And.right (And.right (And.right (And.right (And.right (And.right (And.right (And.right (And.right (And.right (And.right (And.right (And.right (And.right (And.right (And.right (And.right (And.right (And.right (And.right (by assumption)))))))))))))))))))))) | (with_reducible exact And.right (And.right (And.right (And.right (And.right (And.right (And.right (And.right (And.right (And.right (And.right (And.right (And.right (And.right (And.right (And.right (And.right (And.right (And.right (And.right (And.right (And.right (by assumption))))))))))))))))))))))) | (with_reducible exact And.right (And.right (And.right (And.right (And.right (And.right (And.right (And.right (And.right (And.right (And.right (And.right (And.right (And.right (And.right (And.right (And.right (And.right (And.right (And.right (And.right (And.right (And.right (by assumption)))))))))))))))))))))))))
  k_with "TL ne0" => (refine neN ?_; (try dsimp only); first | (with_reducible assumption) | (refine Ne.symm ?_; with_reducible assumption) | (with_reducible exact And.left (by assumption)) | (with_reducible exact And.left (And.right (by assumption))) | (with_reducible exact And.left (And.right (And.right (by assumption)))) | (with_reducible exact And.left (And.right (And.right (And.right (by assumption))))) | (with_reducible exact And.left (And.right (And.right (And.right (And.right (by assumption)))))) | (with_reducible exact And.left (And.right (And.right (And.right (And.right (And.right (by assumption))))))) | (with_reducible exact Ne.symm <| And.left (by assumption)) | (with_reducible exact Ne.symm <| And.left (And.right (by assumption))) | (with_reducible exact Ne.symm <| And.left (And.right (And.right (by assumption)))) | (with_reducible exact Ne.symm <| And.left (And.right (And.right (And.right (by assumption))))) | (with_reducible exact Ne.symm <| And.left (And.right (And.right (And.right (And.right (by assumption)))))) | (with_reducible exact Ne.symm <| And.left (And.right (And.right (And.right (And.right (And.right (by assumption))))))) | (refine ne_gt ?_; k_extra "TL lt0") | (refine ne_lt ?_; k_extra "TL lt0"))
  k_with "TL le" => (first | (with_reducible assumption) | (with_reducible exact Nat.le_refl _) | (with_reducible exact Nat.succ_le_of_lt (by assumption)) | (with_reducible exact Nat.le_of_lt (by assumption)) | (with_reducible refine le_ss ?_; k_extra "TL le") | ((fail_if_success (with_reducible refine le_ss ?_)); with_reducible refine le_s ?_; k_extra "TL le") | ((fail_if_success (with_reducible refine le_s ?_)); refine le_t ?_ (by with_reducible assumption); k_extra "TL le") | ((fail_if_success (with_reducible refine le_s ?_)); refine le_t ?_ (Nat.le_of_lt (by with_reducible assumption)); k_extra "TL le"))
  k_with "TL mem" => (assumption)
  k_with "TL@ execs cons" => ((k_here; (with_reducible refine gen_add ?_); intro tkq9 htkq9; (try dsimp only at htkq9); (try dsimp only)))
  k_with "TL@ execs nil" => ((k_here; (with_reducible refine gen_add ?_); intro tkq9 htkq9; (try dsimp only at htkq9); (try dsimp only)))
  k_with "TL@ eval ListComp" => (k_extra "TL comp")
  k_with "TL@ getMethod ref" => ((k_here; (with_reducible show wpAny _ _ (getMethod (Value.ref _) (PySem.Str.ofString "count") _) _ _ _); k_dflt (refine' kl_method ?N ?m PySem.F.slot_list_count PySem.F.type_list_count ?_; (case N => k_asm); (case m => k_mem))))
  k_with "TL@ call builtin:list.count" => ((k_here; k_dflt (refine count_list_ints (News.isList (by k_asm) (by k_mem)) (by assumption) ?_)))
  k_with "TL@ binaryOp Div int int" => ((k_here; k_dflt (refine div16 rfl (by first | assumption | apply_assumption) ?_)))
  k_with "TL@ exec Assign cons ListComp" => ((k_here; (with_reducible show wpAny _ _ (exec (Stmt.Assign [Expr.Tuple _ _ _] _ _) _) _ _ _); walk_at "exec Assign"))
  k_with "TL@ CompEnd float" => ((k_here; k_dflt (refine comp_end (by k_asm) (by k_asm) (fun _ h => h) (by assumption) (by first | assumption | trivial) ⟨_, Nat.succ_ne_zero _, rfl⟩)))
  intro dp un gd cn cs a ccd cl outer A₀ base h₀ L m s Q E B F X N T hk hdp hu hret
  have hc : ∀ k : Int, ns.count k < 2 ^ 1023 := fun k => Nat.lt_of_le_of_lt (Nat.le_trans List.count_le_length hlen) (by decide +kernel)
  have hp1 : light = true → hlsPre (six (ns.count (0 + ((0 : Nat) : Int)))) (six (ns.count (0 + ((1 : Nat) : Int)))) (six (ns.count (0 + ((2 : Nat) : Int)))) = true := fun e => by unfold huePre at hp; rw [if_pos e] at hp; exact hp
  have hp0 : light = false → hsvPre (six (ns.count (0 + ((0 : Nat) : Int)))) (six (ns.count (0 + ((1 : Nat) : Int)))) (six (ns.count (0 + ((2 : Nat) : Int)))) = true := fun e => by unfold huePre at hp; rw [e] at hp; exact hp
  ((refine wpAny_call ?_; k_dflt (refine' code_defT ?k1 ?k2 ?k3 ?k4 ?k5 ?kA ?kF ?kK ?k6 ?k7 ?k8 ?k9 ?kB ?kD ?_ ?c2 ?c3 ?c4; (case kA => exact rfl); (case kF => exact rfl); (case kK => assumption); (case k1 => k_asm); (case k2 => k_asm); (case k3 => k_asm); (case k4 => k_asm); (case k5 => k_asm); (case k6 => k_is); (case k7 => k_is); (case k8 => ktr_room); (case k9 => exact BindsTo.of_eq rfl); (case kB => exact rfl); (case kD => decide +kernel); (case c2 => exact rfl); (case c3 => exact rfl); (case c4 => exact rfl); k_whole; intro gq9' Lq9' hq9' tkq9' cellsq9' hleq9' FGq9' Fq9' Nq9' Yq9' Bq9' Xq9' Tq9' l1q9; (try k_lt l1q9); k_cells Yq9'; (try simp only [List.cons_append, List.nil_append] at Nq9'); (try dsimp only); (try k_lift Bq9'); (try k_fold))))
  k_with "TL comp" => (k_dflt (refine toks_up ?_; refine LCg.ListComp_U (F₀ := by k_asm) (by with_unfolding_all rfl) (by decide) (by rfl) (by decide) (by rfl) ?_))
  k_with "CompSrc BinOp cons ref" => (k_dflt (refine LCg.CompSrc.range (by rfl) (by k_asm) (by k_asm) (by assumption) (by first | decide | rfl) (by first | rfl | decide) (by first | size_fits | exact Nat.le_of_ble_eq_true rfl) ?_; intro g'; refine comp_vals (n := 3) (fun i y => ∃ t, t ≠ 0 ∧ y = .float (six (ns.count (0 + (i : Int)))) t) (fun i v I oI C oC D m₂ ys h tk E' hi hP hC hx F' N' off' hS' ne' => ?_) trivial (fun ys hyl hv => ?_); obtain ⟨t', rfl⟩ := hP; rotate_left; obtain ⟨t0, t1, t2, z0, z1, z2, rfl⟩ := vals3t hyl hv; rotate_left))
  k_with "call ref" => (k_dflt (refine' Con.use (rgb_to_hls_con _ _ _ _ _ _ _ _ _ _ _ (hp1 (by assumption)) z0 z1 z2) ?k1 ?k2 ?k3 ?k4 ?k5 ?kK ?kd ?ku ?_; (case k1 => k_asm); (case k2 => k_asm); (case k3 => k_asm); (case k4 => k_asm); (case k5 => k_asm); (case kK => first | exact rfl | assumption); (case kd => ktr_room); (case ku => ktr_units); k_whole); intro a' t1' t2' t3' h' tk' F' N' l1' hT'; (try dsimp only at hT'); (try dsimp only); (try k_lt l1'); (try k_sweep))
  k_with "call ref" => (k_dflt (refine' Con.use (rgb_to_hsv_con _ _ _ _ _ _ _ _ _ _ _ (hp0 (by assumption)) z0 z1 z2) ?k1 ?k2 ?k3 ?k4 ?k5 ?kK ?kd ?ku ?_; (case k1 => k_asm); (case k2 => k_asm); (case k3 => k_asm); (case k4 => k_asm); (case k5 => k_asm); (case kK => first | exact rfl | assumption); (case kd => ktr_room); (case ku => ktr_units); k_whole); intro a' t1' t2' t3' h' tk' F' N' l1' hT'; (try dsimp only at hT'); (try dsimp only); (try k_lt l1'); (try k_sweep))
  w_strict (k_steps; all_goals first
    | (((refine' ret_tmT (by assumption) ?F ?N ?hm ?hs ?l ?_ ?_; (case F => assumption); (case N => assumption); (case hm => k_mem); (case hs => kcf_all); (case l => ((refine ktn_ltOf ?_; first | assumption | exact And.right (by assumption) | exact And.right (And.right (by assumption)) | exact And.right (And.right (And.right (by assumption))) | exact And.right (And.right (And.right (And.right (by assumption)))) | exact And.right (And.right (And.right (And.right (And.right (by assumption))))) | exact And.right (And.right (And.right (And.right (And.right (And.right (by assumption))))))))))); rotate_left; (exact tokT_mono hT' (by (try dsimp only at *); omega) (by (try dsimp only); omega)); first | (rename light = true => e; subst e; exact rfl) | (rename light = false => e; subst e; exact rfl)))
end TL
end

section
open PySem PySem.W PySem.Spec PySem.Calls PyProof.Rows
set_option maxRecDepth 100000
set_option maxHeartbeats 8000000
namespace TL
section
variable {w : World} {mean : ExcName → Option Value} {mg mb : Str → Option Value} {dp un : Nat} {gd : Option (List Code)} {cn : Str} {cs : Scope} {a : Addr} {ccd : Value} {cl : List (Str × Addr)} {outer : List Env} {A₀ : Around} {base h₀ : Heap} {L : Addr} {m : Str → Option Value} {s : Shared} {Q E : Value → Shared → Prop} {news : List (Addr × Obj)}
theorem use_signs {k : Int} {t : Tok} (B : Below A₀ base outer h₀) (F : Fr h₀ L s.heap m) (X : (hd.heap_39 w.params).In h₀) (N : News h₀ L s.heap news)
    (T : Top hd.view_39 (looseW hd.view_39 [Str.ofString "Whitespace", Str.ofString "ONE_THIRD", Str.ofString "ONE_SIXTH", Str.ofString "TWO_THIRD"]) mean mg mb h₀)
    (hk : cs.kind = .function) (h0 : 0 ≤ k) (h2 : k ≤ 2) (hdp : dp + 2 < recursionLimit) (hun : un + 8 * 2 < cLine) (ret : RetSg news (signs k) h₀ L m s Q) :
    wpAny (model Challenge.rw_tl0040_01.row.prog w) (ktrTop dp un gd cn cs L a ccd cl outer) (call (.ref 164) [.int k t]) Q E s := Con.use (signs_con w mean mg mb news k t h0 h2) B F X N T hk hdp hun ret
theorem use_beads {H R : Addr} {xs : List Value} {j : Nat} {ns : List Int} {t0 t1 t2 : Tok} {k : Int} (B : Below A₀ base outer h₀) (F : Fr h₀ L s.heap m) (X : (hd.heap_39 w.params).In h₀) (N : News h₀ L s.heap news)
    (T : Top hd.view_39 (looseW hd.view_39 [Str.ofString "Whitespace", Str.ofString "ONE_THIRD", Str.ofString "ONE_SIXTH", Str.ofString "TWO_THIRD"]) mean mg mb h₀)
    (hk : cs.kind = .function) (hH : (H, W.listOf xs.toArray j) ∈ news) (hR : (R, sgO (signs k) t0 t1 t2) ∈ news) (hI : IntsAre xs ns) (h4 : ns.length = 4) (hns : ∀ x ∈ ns, 0 ≤ x ∧ x < 1000000) (hk0 : 0 ≤ k) (hk2 : k ≤ 2) (hdp : dp + 3 < recursionLimit) (hun : un + 8 * 3 < cLine) (ret : RetB news (signs k) 8 h₀ L m s Q) :
    wpAny (model Challenge.rw_tl0040_01.row.prog w) (ktrTop dp un gd cn cs L a ccd cl outer) (call (.ref 176) [.ref H, .ref R]) Q E s := Con.use (beads_con w mean mg mb news H R xs j ns t0 t1 t2 k hk0 hk2 hH hR hI h4 hns) B F X N T hk hdp hun ret
theorem written_sp {k : Int} {t tz : Tok} {z : Str} (h0 : 0 ≤ k) (h2 : k ≤ 2) (hz : BeadsOk (signs k) 8 z) : Con w mean mg mb 157 5 news [.int k t, .str z tz] (RetS news (spTxt k z)) := by
  rw [← esc_sp h0 h2 hz]
  exact written_con w mean mg mb news k t tz z h0 h2 (Nat.le_of_eq hz.1)
theorem use_written {k : Int} {t tz : Tok} {z : Str} (B : Below A₀ base outer h₀) (F : Fr h₀ L s.heap m) (X : (hd.heap_39 w.params).In h₀) (N : News h₀ L s.heap news)
    (T : Top hd.view_39 (looseW hd.view_39 [Str.ofString "Whitespace", Str.ofString "ONE_THIRD", Str.ofString "ONE_SIXTH", Str.ofString "TWO_THIRD"]) mean mg mb h₀)
    (hk : cs.kind = .function) (hz : BeadsOk (signs k) 8 z) (h0 : 0 ≤ k) (h2 : k ≤ 2) (hdp : dp + 5 < recursionLimit) (hun : un + 8 * 5 < cLine) (ret : RetS news (spTxt k z) h₀ L m s Q) :
    wpAny (model Challenge.rw_tl0040_01.row.prog w) (ktrTop dp un gd cn cs L a ccd cl outer) (call (.ref 157) [.int k t, .str z tz]) Q E s := Con.use ((fun w mean mg mb news (_ : Unit) => written_sp (w := w) (mean := mean) (mg := mg) (mb := mb) (news := news) h0 h2 hz) w mean mg mb news ()) B F X N T hk hdp hun ret
theorem use_spelled {k : Int} {t tz : Tok} {z : Str} (B : Below A₀ base outer h₀) (F : Fr h₀ L s.heap m) (X : (hd.heap_39 w.params).In h₀) (N : News h₀ L s.heap news)
    (T : Top hd.view_39 (looseW hd.view_39 [Str.ofString "Whitespace", Str.ofString "ONE_THIRD", Str.ofString "ONE_SIXTH", Str.ofString "TWO_THIRD"]) mean mg mb h₀)
    (hk : cs.kind = .function) (hz : BeadsOk (signs k) 8 z) (h0 : 0 ≤ k) (h2 : k ≤ 2) (hdp : dp + 5 < recursionLimit) (hun : un + 8 * 5 < cLine) (ret : RetS news (spTxt k z) h₀ L m s Q) :
    wpAny (model Challenge.rw_tl0040_01.row.prog w) (ktrTop dp un gd cn cs L a ccd cl outer) (call (.ref 169) [.int k t, .str z tz]) Q E s := Con.use (spelled_con w mean mg mb news k t tz z h0 h2 hz) B F X N T hk hdp hun ret
theorem use_lead {l : Addr} {vs : List Value} {ns : List Int} {behind : Int} {tb : Tok} {n : Nat} (B : Below A₀ base outer h₀) (F : Fr h₀ L s.heap m) (X : (hd.heap_39 w.params).In h₀) (N : News h₀ L s.heap news)
    (T : Top hd.view_39 (looseW hd.view_39 [Str.ofString "Whitespace", Str.ofString "ONE_THIRD", Str.ofString "ONE_SIXTH", Str.ofString "TWO_THIRD"]) mean mg mb h₀)
    (hk : cs.kind = .function) (hl : (l, W.listOf vs.toArray n) ∈ news) (hi : IntsAre vs ns) (hlen : ns.length ≤ 8) (hk3 : ∀ k ∈ ns, 0 ≤ k ∧ k ≤ 2) (hb : 0 ≤ behind ∧ behind ≤ 1) (hdp : dp + 5 < recursionLimit) (hun : un + 8 * 5 < cLine) (ret : ∀ t : Tok, RetW w.params news (leadTxt ns behind) t (wsRun (leadCodes ns behind)) h₀ L m s Q) :
    wpAny (model Challenge.rw_tl0040_01.row.prog w) (ktrTop dp un gd cn cs L a ccd cl outer) (call (.ref 181) [.ref l, .int behind tb]) Q E s := Con.use (lead_con w mean mg mb news l vs ns behind tb hl hi hlen hk3 hb) B F X N T hk hdp hun ret
theorem use_seen {l : Addr} {vs : List Value} {ns : List Int} {light : Bool} {n : Nat} (B : Below A₀ base outer h₀) (F : Fr h₀ L s.heap m) (X : (hd.heap_39 w.params).In h₀) (N : News h₀ L s.heap news)
    (T : Top hd.view_39 (looseW hd.view_39 [Str.ofString "Whitespace", Str.ofString "ONE_THIRD", Str.ofString "ONE_SIXTH", Str.ofString "TWO_THIRD"]) mean mg mb h₀)
    (hk : cs.kind = .function) (hl : (l, W.listOf vs.toArray n) ∈ news) (hi : IntsAre vs ns) (hlen : ns.length ≤ 8) (hp : huePre ns light = true) (hdp : dp + 3 < recursionLimit) (hun : un + 8 * 3 < cLine) (ret : RetTT news (hueOf ns light) h₀ L m s Q) :
    wpAny (model Challenge.rw_tl0040_01.row.prog w) (ktrTop dp un gd cn cs L a ccd cl outer) (call (.ref 186) [.ref l, .bool light]) Q E s := Con.use (seen_con w mean mg mb news l vs ns light hl hi hlen hp) B F X N T hk hdp hun ret
theorem use_counts {hue share level : UInt64} {light negative : Bool} {t1 t2 t3 : Tok} (B : Below A₀ base outer h₀) (F : Fr h₀ L s.heap m) (X : (hd.heap_39 w.params).In h₀) (N : News h₀ L s.heap news)
    (T : Top hd.view_39 (looseW hd.view_39 [Str.ofString "Whitespace", Str.ofString "ONE_THIRD", Str.ofString "ONE_SIXTH", Str.ofString "TWO_THIRD"]) mean mg mb h₀)
    (hk : cs.kind = .function) (hp : countsOk hue share level light negative = true) (hdp : dp + 4 < recursionLimit) (hun : un + 8 * 4 < cLine) (ret : RetI news (countsOf hue share level light negative) h₀ L m s Q) :
    wpAny (model Challenge.rw_tl0040_01.row.prog w) (ktrTop dp un gd cn cs L a ccd cl outer) (call (.ref 191) [.float hue t1, .float share t2, .float level t3, .bool light, .bool negative]) Q E s := Con.use (counts_con w mean mg mb news hue share level light negative t1 t2 t3 hp) B F X N T hk hdp hun ret
theorem use_column {D : Addr} {f : Nat → Int} {t0 t1 t2 t : Tok} {size : Int} (B : Below A₀ base outer h₀) (F : Fr h₀ L s.heap m) (X : (hd.heap_39 w.params).In h₀) (N : News h₀ L s.heap news)
    (T : Top hd.view_39 (looseW hd.view_39 [Str.ofString "Whitespace", Str.ofString "ONE_THIRD", Str.ofString "ONE_SIXTH", Str.ofString "TWO_THIRD"]) mean mg mb h₀)
    (hk : cs.kind = .function) (hm : (D, LCg.lst [.int (f 0) t0, .int (f 1) t1, .int (f 2) t2]) ∈ news) (h1 : 1 ≤ size) (h3 : size ≤ 3) (hdp : dp + 3 < recursionLimit) (hun : un + 8 * 3 < cLine) (ret : RetV news (.int (colOf f size)) h₀ L m s Q) :
    wpAny (model Challenge.rw_tl0040_01.row.prog w) (ktrTop dp un gd cn cs L a ccd cl outer) (call (.ref 196) [.ref D, .int size t]) Q E s := Con.use (column_con w mean mg mb news D f t0 t1 t2 t size hm h1 h3) B F X N T hk hdp hun ret
theorem use_equal {x y : Addr} {v u : WsV} (B : Below A₀ base outer h₀) (F : Fr h₀ L s.heap m) (X : (hd.heap_39 w.params).In h₀) (N : News h₀ L s.heap news)
    (T : Top hd.view_39 (looseW hd.view_39 [Str.ofString "Whitespace", Str.ofString "ONE_THIRD", Str.ofString "ONE_SIXTH", Str.ofString "TWO_THIRD"]) mean mg mb h₀)
    (hk : cs.kind = .function) (hx : IsWs w.params news x v) (hy : IsWs w.params news y u) (hdp : dp + 10 < recursionLimit) (hun : un + 8 * 10 < cLine) (ret : RetV news (fun _ => .bool (decide (v.k = u.k ∧ v.b = u.b))) h₀ L m s Q) :
    wpAny (model Challenge.rw_tl0040_01.row.prog w) (ktrTop dp un gd cn cs L a ccd cl outer) (call (.ref 59) [.ref x, .ref y]) Q E s := Con.use (equal_con w mean mg mb news x y v u hx hy) B F X N T hk hdp hun ret
theorem equal_r {x y : Addr} {v u : WsV} {r : Bool} (hx : IsWs w.params news x v) (hy : IsWs w.params news y u) (hr : decide (v.k = u.k ∧ v.b = u.b) = r) : Con w mean mg mb 59 10 news [.ref x, .ref y] (RetV news (fun _ => .bool r)) := by
  subst hr
  exact equal_con w mean mg mb news x y v u hx hy
theorem use_equalR {x y : Addr} {v u : WsV} {r : Bool} (B : Below A₀ base outer h₀) (F : Fr h₀ L s.heap m) (X : (hd.heap_39 w.params).In h₀) (N : News h₀ L s.heap news)
    (T : Top hd.view_39 (looseW hd.view_39 [Str.ofString "Whitespace", Str.ofString "ONE_THIRD", Str.ofString "ONE_SIXTH", Str.ofString "TWO_THIRD"]) mean mg mb h₀)
    (hk : cs.kind = .function) (hx : IsWs w.params news x v) (hy : IsWs w.params news y u) (hr : decide (v.k = u.k ∧ v.b = u.b) = r) (hdp : dp + 10 < recursionLimit) (hun : un + 8 * 10 < cLine) (ret : RetV news (fun _ => .bool r) h₀ L m s Q) :
    wpAny (model Challenge.rw_tl0040_01.row.prog w) (ktrTop dp un gd cn cs L a ccd cl outer) (call (.ref 59) [.ref x, .ref y]) Q E s := Con.use (equal_r hx hy hr) B F X N T hk hdp hun ret
theorem use_wit {x y : Addr} {v u : WsV} (B : Below A₀ base outer h₀) (F : Fr h₀ L s.heap m) (X : (hd.heap_39 w.params).In h₀) (N : News h₀ L s.heap news)
    (T : Top hd.view_39 (looseW hd.view_39 [Str.ofString "Whitespace", Str.ofString "ONE_THIRD", Str.ofString "ONE_SIXTH", Str.ofString "TWO_THIRD"]) mean mg mb h₀)
    (hk : cs.kind = .function) (hx : IsWs w.params news x v) (hy : IsWs w.params news y u) (hl : v.k.length < 2 ^ 12) (hl2 : u.k.length < 2 ^ 12) (hn3 : maxI (runOf v) (runOf u) ≤ 3) (hdp : dp + 12 < recursionLimit) (hun : un + 8 * 12 < cLine) (ret : RetR news (neOf v u) h₀ L m s Q) :
    wpAny (model Challenge.rw_tl0040_01.row.prog w) (ktrTop dp un gd cn cs L a ccd cl outer) (call (.ref 66) [.ref x, .ref y]) Q E s := Con.use (wit_con w mean mg mb news x y v u hx hy hl hl2 hn3) B F X N T hk hdp hun ret
end
theorem fmod3_le (x : Int) : x.fmod 3 ≤ 2 := by have := Int.fmod_lt_of_pos x (b := 3) (by decide); omega
theorem fmod3_ge (x : Int) : 0 ≤ x.fmod 3 := Int.fmod_nonneg_of_pos _ (by decide)
end TL
end

section
open PySem PySem.W PySem.Spec PySem.Calls PyProof.Rows
set_option maxRecDepth 100000
set_option maxHeartbeats 8000000
namespace TL
def fnBody : Stmt → List Stmt
  | .FunctionDef _ _ body _ _ _ _ _ _ _ => body
  | _ => []
def fnScope : Stmt → Scope
  | .FunctionDef _ _ _ _ _ _ scope _ _ _ => scope
  | _ => { kind := .function, names := [], isGenerator := false, isCoroutine := false }
def forBody : Stmt → List Stmt
  | .For _ _ body _ _ => body
  | _ => []
def lawStmt : Stmt := Challenge.pw_tl0040_01.main.body.getLastD (.Pass ⟨0, 0, 0, 0⟩)
def lawBody : List Stmt := fnBody lawStmt
def lawScope : Scope := fnScope lawStmt
/-- the body of the inner loop -/
def lawTurn : List Stmt := forBody ((forBody (lawBody.getD 12 (.Pass ⟨0, 0, 0, 0⟩))).getD 0 (.Pass ⟨0, 0, 0, 0⟩))
end TL
end

section
open PySem PySem.W PySem.Spec PySem.Calls PyProof.Rows
set_option maxRecDepth 100000
set_option maxHeartbeats 8000000
namespace TL
def jn (c : Nat) : List (List Nat) → List Nat
  | [] => []
  | [p] => p
  | p :: q :: r => p ++ c :: jn c (q :: r)
theorem jn_cut {c : Nat} : ∀ {p q X Y : List Nat}, c ∉ p → c ∉ q → p ++ c :: X = q ++ c :: Y → p = q ∧ X = Y
  | [], [], _, _, _, _, h => ⟨rfl, (List.cons.inj h).2⟩
  | [], b :: q, _, _, _, hq, h => absurd ((List.cons.inj h).1 ▸ List.mem_cons_self ..) hq
  | a :: p, [], _, _, hp, _, h => absurd ((List.cons.inj h).1 ▸ List.mem_cons_self ..) hp
  | a :: p, b :: q, X, Y, hp, hq, h => by
    have e := List.cons.inj h
    have r := jn_cut (p := p) (q := q) (X := X) (Y := Y) (fun m => hp (.tail _ m)) (fun m => hq (.tail _ m)) e.2
    exact ⟨by rw [e.1, r.1], r.2⟩
theorem jn_uniq {c : Nat} : ∀ {ps qs : List (List Nat)}, ps ≠ [] → qs ≠ [] → (∀ p ∈ ps, c ∉ p) → (∀ p ∈ qs, c ∉ p) → jn c ps = jn c qs → ps = qs
  | [], _, h, _, _, _, _ => absurd rfl h
  | _ :: _, [], _, h, _, _, _ => absurd rfl h
  | [p], [q], _, _, _, _, e => by rw [show p = q from e]
  | [p], q :: q2 :: r, _, _, hp, _, e => by
    have e' : p = q ++ c :: jn c (q2 :: r) := e
    exact absurd (e' ▸ List.mem_append_right _ (List.mem_cons_self ..)) (hp p (.head _))
  | p :: p2 :: r, [q], _, _, _, hq, e => by
    have e' : p ++ c :: jn c (p2 :: r) = q := e
    exact absurd (e' ▸ List.mem_append_right _ (List.mem_cons_self ..)) (hq q (.head _))
  | p :: p2 :: r, q :: q2 :: r2, _, _, hp, hq, e => by
    have e' : p ++ c :: jn c (p2 :: r) = q ++ c :: jn c (q2 :: r2) := e
    obtain ⟨a, b⟩ := jn_cut (hp p (.head _)) (hq q (.head _)) e'
    rw [a, jn_uniq (List.cons_ne_nil _ _) (List.cons_ne_nil _ _) (fun x hx => hp x (.tail _ hx)) (fun x hx => hq x (.tail _ hx)) b]
theorem join_jn (c : Nat) : ∀ ps : List Str, (Str.join ⟨#[c]⟩ ps).cps.toList = jn c (ps.map (·.cps.toList))
  | [] => rfl
  | [p] => rfl
  | p :: q :: r => by
    have ih := join_jn c (q :: r)
    show (p ++ ⟨#[c]⟩ ++ Str.join ⟨#[c]⟩ (q :: r)).cps.toList = _
    rw [Str.cps_append, Str.cps_append, Array.toList_append, Array.toList_append, ih]
    show p.cps.toList ++ [c] ++ _ = p.cps.toList ++ c :: jn c _
    simp
/-- the name of a sign, the sign & struck -/
def nmK (k : Int) (c : Nat) : Str := ⟨((spK k c).cps.toList.drop 1).toArray⟩
theorem spK_nm (k : Int) (c : Nat) : (spK k c).cps.toList = 38 :: (nmK k c).cps.toList ∧ 38 ∉ (nmK k c).cps.toList := by
  unfold nmK spK
  repeat' split
  all_goals decide
theorem nm_len {k : Int} (h0 : 0 ≤ k) (h2 : k ≤ 2) {c : Nat} (h : SgOf (signs k) c) : ((nmK k c).length : Int) - 3 = kindAt c := by
  obtain rfl | rfl | rfl : k = 0 ∨ k = 1 ∨ k = 2 := int012 (by first | assumption | exact ⟨by assumption, by assumption⟩)
  · rcases sg0 h with rfl | rfl | rfl | rfl | rfl | rfl | rfl <;> decide
  · rcases sg1 h with rfl | rfl | rfl <;> decide
  · rcases sg2 h with rfl | rfl | rfl | rfl | rfl | rfl <;> decide
theorem nm_short (k : Int) (c : Nat) : (nmK k c).length < 2 ^ 12 := by
  unfold nmK spK
  repeat' split
  all_goals decide
theorem jn_cons (c : Nat) (p : List Nat) : ∀ ps : List (List Nat), jn c (p :: ps) = p ++ (ps.map fun q => c :: q).flatten
  | [] => by simp [jn]
  | q :: r => by
    show p ++ c :: jn c (q :: r) = _
    rw [jn_cons c q r]; simp
theorem str_eq {a b : Str} (e : a.cps.toList = b.cps.toList) : a = b := by
  cases a; cases b
  congr
  exact Array.toList_inj.mp e
theorem map_inj_str : ∀ {a b : List Str}, a.map (·.cps.toList) = b.map (·.cps.toList) → a = b
  | [], [], _ => rfl
  | [], _ :: _, h => by cases h
  | _ :: _, [], h => by cases h
  | x :: r, y :: q, h => by
    have e := List.cons.inj h
    rw [str_eq e.1, map_inj_str e.2]
/-- the page, split at the signs & -/
theorem page_split {k : Int} {n : Nat} {z : Str} (hz : BeadsOk (signs k) (n + 1) z) : Txt.split (spTxt k z) (Str.ofString "&") = Str.ofString "" :: z.cps.toList.map (nmK k) := by
  have ea : Str.ofString "&" = (⟨#[38]⟩ : Str) := by decide
  have e0 : (Str.ofString "").cps.toList = [] := by decide
  rw [ea]
  have hf := StrLaws.split_free (spTxt k z) 38
  have hj := join_jn 38 (Txt.split (spTxt k z) ⟨#[38]⟩)
  rw [StrLaws.join_split, spTxt, join_empty, List.map_map] at hj
  have hs : (List.map ((fun x : Str => x.cps.toList) ∘ spK k) z.cps.toList).flatten = jn 38 ((Str.ofString "" :: z.cps.toList.map (nmK k)).map (·.cps.toList)) := by
    rw [List.map_cons, jn_cons, e0, List.nil_append, List.map_map, List.map_map]
    congr 1
    refine List.map_congr_left fun c _ => ?_
    exact (spK_nm k c).1
  rw [hs] at hj
  refine map_inj_str (jn_uniq ?_ ?_ ?_ ?_ hj.symm)
  · intro hn
    have hn' : Txt.split (spTxt k z) ⟨#[38]⟩ = [] := List.map_eq_nil_iff.mp hn
    have h1 := StrLaws.join_split (spTxt k z) ⟨#[38]⟩
    rw [hn'] at h1
    have h2 : (spTxt k z).cps.toList = [] := by rw [← h1]; rfl
    rw [spTxt, join_empty, List.map_map, hs, List.map_cons, jn_cons, e0, List.nil_append, List.map_map] at h2
    have hsz := hz.1
    cases hzz : z.cps.toList with
    | nil => rw [← Array.length_toList, hzz] at hsz; simp at hsz
    | cons c r => rw [hzz] at h2; simp at h2
  · exact List.cons_ne_nil _ _
  · intro p hp
    obtain ⟨x, hx, rfl⟩ := List.mem_map.mp hp
    exact hf x hx
  · intro p hp
    rw [List.map_cons] at hp
    rcases List.mem_cons.mp hp with rfl | hp
    · rw [e0]; exact List.not_mem_nil
    · rw [List.map_map] at hp
      obtain ⟨c, _, rfl⟩ := List.mem_map.mp hp
      exact (spK_nm k c).2
/-- the kinds of the beads -/
def kindsOf (z : Str) : List Int := z.cps.toList.map fun c => (kindAt c : Int)
theorem split_drop {l : List (Str × Tok)} {k : Int} {n : Nat} {z : Str} (hz : BeadsOk (signs k) (n + 1) z) (e : l.map (·.1) = Txt.split (spTxt k z) (Str.ofString "&")) (a : StrsAre (strValues l) (l.map (·.1))) :
    ∃ vs, (slicePick (strValues l).toArray (some 1) none none).toList = vs ∧ StrsAre vs (z.cps.toList.map (nmK k)) := by
  refine ⟨_, rfl, ?_⟩
  rw [show (1 : Int) = ((1 : Nat) : Int) from rfl, slicePick_from']
  rw [e, page_split hz] at a
  generalize strValues l = us at a
  cases a with
  | cons y t r => simpa using r
theorem sp_len {k : Int} {n : Nat} {z : Str} (hz : BeadsOk (signs k) n z) (hn : n ≤ 8) : (spTxt k z).length ≤ 48 := by
  have h0 : (spTxt k z).length = (spTxt k z).cps.toList.length := (Array.length_toList).symm
  have h1 := sp_weight (k := k) z.cps.toList
  rw [Array.length_toList, hz.1] at h1
  rw [h0, spTxt, join_empty, List.length_flatten, List.map_map]
  have e : (List.map (List.length ∘ fun (x : Str) => x.cps.toList) (z.cps.toList.map (spK k))) = (z.cps.toList.map (spK k)).map (·.length) := List.map_congr_left fun x _ => Array.length_toList
  rw [e]
  omega
theorem vals_kinds {z : Str} : ∀ {ys : List Value} {i : Nat}, Vals (fun i y => ∃ c t, z.cps[i]? = some c ∧ y = .int (kindAt c) t) i ys → i + ys.length = z.cps.size → IntsAre ys ((z.cps.toList.drop i).map fun c => (kindAt c : Int))
  | [], i, _, h => by
    rw [List.drop_eq_nil_of_le (by simp at h ⊢; omega)]
    exact .nil
  | y :: ys, i, .cons hy r, h => by
    obtain ⟨c, t, hk, rfl⟩ := hy
    have hk' : z.cps.toList[i]? = some c := by rw [Array.getElem?_toList]; exact hk
    have e : z.cps.toList.drop i = c :: z.cps.toList.drop (i + 1) := by
      obtain ⟨hlt, hk'⟩ := List.getElem?_eq_some_iff.mp hk'
      rw [List.drop_eq_getElem_cons hlt, hk']
    rw [e]
    exact .cons _ _ (vals_kinds r (by rw [List.length_cons] at h; omega))
theorem kinds_are {z : Str} {ys : List Value} (hl : ys.length = z.cps.size) (hv : Vals (fun i y => ∃ c t, z.cps[i]? = some c ∧ y = .int (kindAt c) t) 0 ys) : IntsAre ys (kindsOf z) := vals_kinds (i := 0) hv (by omega)
theorem kindAt_lt (c : Nat) : kindAt c < 3 := by
  unfold kindAt
  repeat' split
  all_goals omega
/-- eight kinds, each an even number of times -/
def Word (ns : List Int) : Prop := ns.length = 8 ∧ (∀ x ∈ ns, 0 ≤ x ∧ x ≤ 2) ∧ ∀ q : Nat, q < 3 → ns.count (q : Int) % 2 = 0
theorem kinds_word {k : Int} {z : Str} (hz : BeadsOk (signs k) 8 z) (hev : Even3 z) : Word (kindsOf z) := by
  refine ⟨by rw [kindsOf, List.length_map, Array.length_toList]; exact hz.1, ?_, ?_⟩
  · intro x hx
    obtain ⟨c, _, rfl⟩ := List.mem_map.mp hx
    have := kindAt_lt c
    omega
  · intro q hq
    have := hev q hq
    rw [kindsOf, List.count, List.countP_map]
    rw [← this]
    congr 1
    refine List.countP_congr fun c _ => ?_
    simp only [Function.comp, beq_iff_eq]
    omega
end TL
end

section
open PySem PySem.W PySem.Spec PySem.Calls PyProof.Rows
set_option maxRecDepth 100000
set_option maxHeartbeats 8000000
namespace TL
def rep3 (a b c : Nat) : List Int := List.replicate a 0 ++ (List.replicate b 1 ++ List.replicate c 2)
theorem srt : ∀ {l : List Int}, l.Pairwise (· ≤ ·) → (∀ x ∈ l, 0 ≤ x ∧ x ≤ 2) → l = rep3 (l.count 0) (l.count 1) (l.count 2)
  | [], _, _ => rfl
  | x :: r, hp, hb => by
    have hp' := List.pairwise_cons.mp hp
    have ih := srt hp'.2 fun y hy => hb y (.tail _ hy)
    have hx := hb x (.head _)
    obtain rfl | rfl | rfl : x = 0 ∨ x = 1 ∨ x = 2 := int012 (by first | assumption | exact ⟨by assumption, by assumption⟩)
    · have e0 : (0 :: r : List Int).count 0 = r.count 0 + 1 := List.count_cons_self
      have e1 : (0 :: r : List Int).count 1 = r.count 1 := List.count_cons_of_ne (by decide)
      have e2 : (0 :: r : List Int).count 2 = r.count 2 := List.count_cons_of_ne (by decide)
      rw [e0, e1, e2]
      show 0 :: r = 0 :: rep3 _ _ _
      rw [← ih]
    · have z0 : r.count 0 = 0 := List.count_eq_zero.mpr fun h => absurd (hp'.1 _ h) (by decide)
      have e0 : (1 :: r : List Int).count 0 = r.count 0 := List.count_cons_of_ne (by decide)
      have e1 : (1 :: r : List Int).count 1 = r.count 1 + 1 := List.count_cons_self
      have e2 : (1 :: r : List Int).count 2 = r.count 2 := List.count_cons_of_ne (by decide)
      rw [e0, e1, e2, z0]
      rw [z0] at ih
      show 1 :: r = 1 :: rep3 0 _ _
      rw [← ih]
    · have z0 : r.count 0 = 0 := List.count_eq_zero.mpr fun h => absurd (hp'.1 _ h) (by decide)
      have z1 : r.count 1 = 0 := List.count_eq_zero.mpr fun h => absurd (hp'.1 _ h) (by decide)
      have e0 : (2 :: r : List Int).count 0 = r.count 0 := List.count_cons_of_ne (by decide)
      have e1 : (2 :: r : List Int).count 1 = r.count 1 := List.count_cons_of_ne (by decide)
      have e2 : (2 :: r : List Int).count 2 = r.count 2 + 1 := List.count_cons_self
      rw [e0, e1, e2, z0, z1]
      rw [z0, z1] at ih
      show 2 :: r = 2 :: rep3 0 0 _
      rw [← ih]
theorem rep3_count (a b c : Nat) : (rep3 a b c).count 0 = a ∧ (rep3 a b c).count 1 = b ∧ (rep3 a b c).count 2 = c := by
  unfold rep3
  simp [List.count_append, List.count_replicate]
theorem count_sum : ∀ {l : List Int}, (∀ x ∈ l, 0 ≤ x ∧ x ≤ 2) → l.count 0 + l.count 1 + l.count 2 = l.length
  | [], _ => rfl
  | x :: r, h => by
    have ih := count_sum (l := r) fun y hy => h y (.tail _ hy)
    have hx := h x (.head _)
    rw [List.length_cons]
    obtain rfl | rfl | rfl : x = 0 ∨ x = 1 ∨ x = 2 := int012 (by first | assumption | exact ⟨by assumption, by assumption⟩)
    all_goals simp only [List.count_cons]
    all_goals simp
    all_goals omega
def halfOf (ns : List Int) : List Int := rep3 (ns.count 0 / 2) (ns.count 1 / 2) (ns.count 2 / 2)
def strideOf (l : List Int) : List Int := [l.getD 0 0, l.getD 2 0, l.getD 4 0, l.getD 6 0]
theorem stride_rep : ∀ a < 5, ∀ b < 5, ∀ c < 5, a + b + c = 4 → strideOf (rep3 (2 * a) (2 * b) (2 * c)) = rep3 a b c := by decide +kernel
theorem word_half {ns : List Int} (h : Word ns) : ∃ a b c, a < 5 ∧ b < 5 ∧ c < 5 ∧ a + b + c = 4 ∧ ns.count 0 = 2 * a ∧ ns.count 1 = 2 * b ∧ ns.count 2 = 2 * c ∧ halfOf ns = rep3 a b c := by
  obtain ⟨hl, hb, he⟩ := h
  have hs := count_sum hb
  have e0 : ns.count 0 % 2 = 0 := he 0 (by decide)
  have e1 : ns.count 1 % 2 = 0 := he 1 (by decide)
  have e2 : ns.count 2 % 2 = 0 := he 2 (by decide)
  exact ⟨ns.count 0 / 2, ns.count 1 / 2, ns.count 2 / 2, by omega, by omega, by omega, by omega, by omega, by omega, by omega, rfl⟩
theorem stride_half {ns ms : List Int} (h : Word ns) (p : ms.Perm ns) (o : ms.Pairwise (· ≤ ·)) : strideOf ms = halfOf ns := by
  obtain ⟨a, b, c, ha, hb, hc, hs, e0, e1, e2, eh⟩ := word_half h
  have e := srt o fun x hx => h.2.1 x (p.mem_iff.mp hx)
  rw [p.count_eq, p.count_eq, p.count_eq, e0, e1, e2] at e
  rw [eh, e]
  exact stride_rep a ha b hb c hc hs
theorem ints_cons {vs : List Value} {n : Int} {ms : List Int} (h : IntsAre vs (n :: ms)) : ∃ t us, vs = .int n t :: us ∧ IntsAre us ms := by
  cases h with
  | cons n t r => exact ⟨t, _, rfl, r⟩
theorem ints_nil {vs : List Value} (h : IntsAre vs []) : vs = [] := by cases h; rfl
theorem ints8a {vs : List Value} {n0 n1 n2 n3 n4 n5 n6 n7 : Int} (h : IntsAre vs [n0, n1, n2, n3, n4, n5, n6, n7]) : ∃ t0 t1 t2 t3 t4 t5 t6 t7, vs = [.int n0 t0, .int n1 t1, .int n2 t2, .int n3 t3, .int n4 t4, .int n5 t5, .int n6 t6, .int n7 t7] := by
  obtain ⟨t0, u0, e0, h0⟩ := ints_cons h
  obtain ⟨t1, u1, e1, h1⟩ := ints_cons h0
  obtain ⟨t2, u2, e2, h2⟩ := ints_cons h1
  obtain ⟨t3, u3, e3, h3⟩ := ints_cons h2
  obtain ⟨t4, u4, e4, h4⟩ := ints_cons h3
  obtain ⟨t5, u5, e5, h5⟩ := ints_cons h4
  obtain ⟨t6, u6, e6, h6⟩ := ints_cons h5
  obtain ⟨t7, u7, e7, h7⟩ := ints_cons h6
  have e8 := ints_nil h7
  exact ⟨t0, t1, t2, t3, t4, t5, t6, t7, by rw [e0, e1, e2, e3, e4, e5, e6, e7, e8]⟩
theorem len8 {ms : List Int} (hl : ms.length = 8) : ∃ n0 n1 n2 n3 n4 n5 n6 n7, ms = [n0, n1, n2, n3, n4, n5, n6, n7] := by
  match ms, hl with
  | [n0, n1, n2, n3, n4, n5, n6, n7], _ => exact ⟨n0, n1, n2, n3, n4, n5, n6, n7, rfl⟩
theorem ints8 {vs : List Value} {ms : List Int} (h : IntsAre vs ms) (hl : ms.length = 8) : ∃ n0 n1 n2 n3 n4 n5 n6 n7 t0 t1 t2 t3 t4 t5 t6 t7, vs = [.int n0 t0, .int n1 t1, .int n2 t2, .int n3 t3, .int n4 t4, .int n5 t5, .int n6 t6, .int n7 t7] ∧ ms = [n0, n1, n2, n3, n4, n5, n6, n7] := by
  obtain ⟨n0, n1, n2, n3, n4, n5, n6, n7, rfl⟩ := len8 hl
  obtain ⟨t0, t1, t2, t3, t4, t5, t6, t7, rfl⟩ := ints8a h
  exact ⟨n0, n1, n2, n3, n4, n5, n6, n7, t0, t1, t2, t3, t4, t5, t6, t7, rfl, rfl⟩
theorem sorted8 {vs : List Value} {ns ms : List Int} (h : Word ns) (hi : IntsAre vs ms) (p : ms.Perm ns) (o : ms.Pairwise (· ≤ ·)) :
    ∃ n0 n1 n2 n3 n4 n5 n6 n7 t0 t1 t2 t3 t4 t5 t6 t7, vs = [.int n0 t0, .int n1 t1, .int n2 t2, .int n3 t3, .int n4 t4, .int n5 t5, .int n6 t6, .int n7 t7] ∧ IntsAre [.int n0 t0, .int n2 t2, .int n4 t4, .int n6 t6] (halfOf ns) := by
  obtain ⟨n0, n1, n2, n3, n4, n5, n6, n7, t0, t1, t2, t3, t4, t5, t6, t7, rfl, rfl⟩ := ints8 hi (p.length_eq.trans h.1)
  refine ⟨n0, n1, n2, n3, n4, n5, n6, n7, t0, t1, t2, t3, t4, t5, t6, t7, rfl, ?_⟩
  rw [← stride_half h p o]
  exact .cons _ _ (.cons _ _ (.cons _ _ (.cons _ _ .nil)))
theorem half_ok {ns : List Int} (h : Word ns) : (halfOf ns).length = 4 ∧ ∀ x ∈ halfOf ns, 0 ≤ x ∧ x ≤ 2 := by
  obtain ⟨a, b, c, ha, hb, hc, hs, e0, e1, e2, eh⟩ := word_half h
  rw [eh]
  refine ⟨?_, ?_⟩
  · unfold rep3
    simp only [List.length_append, List.length_replicate]; omega
  · intro x hx
    unfold rep3 at hx
    simp only [List.mem_append, List.mem_replicate] at hx
    omega
/-- the sign < : a list of plain length -/
theorem kso_sorted8 {prog : Program} {w : World} {A : Around} {E : Value → Shared → Prop} {s : Shared} {h₀ : Heap} {L l : Addr} {m : Str → Option Value} {news : List (Addr × Obj)} {vs : List Value} {ns : List Int} {n : Nat} {Q : Value → Shared → Prop}
    (F : Fr h₀ L s.heap m) (N : News h₀ L s.heap news) (hm : (l, W.listOf vs.toArray n) ∈ news) (hi : IntsAre vs ns) (hw : Word ns)
    (h : ∀ (D : Addr) (n0 n1 n2 n3 n4 n5 n6 n7 : Int) (t0 t1 t2 t3 t4 t5 t6 t7 : Tok) (c : Nat) (h' : Heap), Fr h₀ L h' m → News h₀ L h' ((D, W.listOf #[.int n0 t0, .int n1 t1, .int n2 t2, .int n3 t3, .int n4 t4, .int n5 t5, .int n6 t6, .int n7 t7] c) :: news) → (∀ q ∈ news, q.1 < D) →
      IntsAre [.int n0 t0, .int n2 t2, .int n4 t4, .int n6 t6] (halfOf ns) → Q (.ref D) { s with heap := h' }) :
    wpAny (model prog w) A (call (.builtin "sorted") [.ref l]) Q E s := by
  refine kso_sorted F N (News.isList N hm) hi (by rw [hw.1]; decide) fun D vs' ns' c h' F' N' l1 hI _ hp ho _ => ?_
  obtain ⟨n0, n1, n2, n3, n4, n5, n6, n7, t0, t1, t2, t3, t4, t5, t6, t7, rfl, h4⟩ := sorted8 hw hI hp ho
  exact h D n0 n1 n2 n3 n4 n5 n6 n7 t0 t1 t2 t3 t4 t5 t6 t7 c h' F' N' l1 h4
theorem split_my {prog : Program} {w : World} {A : Around} {E : Value → Shared → Prop} {s : Shared} {h₀ : Heap} {L : Addr} {m : Str → Option Value} {news : List (Addr × Obj)} {k : Int} {n : Nat} {z : Str} {t u : Tok} {Q : Value → Shared → Prop}
    (F : Fr h₀ L s.heap m) (N : News h₀ L s.heap news) (hz : BeadsOk (signs k) (n + 1) z) (hn : n + 1 ≤ 8)
    (h : ∀ D vs h' k', (∃ us, (slicePick vs.toArray (some 1) none none).toList = us ∧ StrsAre us (z.cps.toList.map (nmK k))) → vs.toArray.size ≤ sizeLine → Fr h₀ L h' m → News h₀ L h' ((D, W.listOf (List.toArray vs) 0) :: news) → (∀ p ∈ news, p.1 < D) → Q (.ref D) { s with heap := h', toks := k' }) :
    wpAny (model prog w) A (call (.builtin "str.split") [.str (spTxt k z) t, .str (Str.ofString "&") u]) Q E s := by
  have hl := sp_len hz hn
  refine KSpl.split1 F N (by decide) (fun D l h' k' e a F' N' l1 => h D (strValues l) h' k' (split_drop hz e a) ?_ F' N' l1) (by rw [sizeLine_eq]; omega)
  have this : (strValues l).length = n + 1 + 1 := by rw [a.length, e, page_split hz, List.length_cons, List.length_map, Array.length_toList (xs := z.cps), hz.1]
  rw [List.size_toArray, this, sizeLine_eq]; omega
theorem names_at {vs : List Value} {k : Int} {z : Str} {i : Nat} {v : Value} (h : StrsAre vs (z.cps.toList.map (nmK k))) (hv : vs[i]? = some v) : ∃ c t, z.cps[i]? = some c ∧ v = .str (nmK k c) t := by
  obtain ⟨y, t, rfl, hy⟩ := h.item i v hv
  rw [List.getElem?_map] at hy
  cases hc : z.cps.toList[i]? with
  | none => rw [hc] at hy; cases hy
  | some c =>
    rw [hc] at hy
    obtain rfl := Option.some.inj hy
    exact ⟨c, t, by rw [← Array.getElem?_toList]; exact hc, rfl⟩
end TL
end

section
open PySem PySem.W PySem.Spec PySem.Calls PyProof.Rows
set_option linter.unusedVariables false
set_option maxRecDepth 100000
set_option maxHeartbeats 8000000
namespace TL
section
variable {prog : Program} {w : World} {A : Around} {s : Shared} {env : Env} {h₀ : Heap} {x : Str} {body : List Stmt}
/-- how a turn ends: on to the next one -/
def TurnT (h₀ : Heap) (L I : Addr) (oI : Obj) (Jn : (Str → Option Value) → List (Addr × Obj) → Prop) (s : Shared) (f : Flow) (s₂ : Shared) : Prop :=
  f = .next ∧ ∃ h' tk' m' news', s₂ = { s with heap := h', toks := tk' } ∧ Fr h₀ L h' m' ∧ News h₀ L h' ((I, oI) :: news') ∧ (∀ p ∈ news', p.1 ≠ I) ∧ Jn m' news'
theorem forLoop_T {R : Result → Shared → Prop} {px : Pos} {I : Addr} {n : Nat} {P : Nat → Value → Prop} {St : Nat → Heap → Prop} {m : Str → Option Value} {news : List (Addr × Obj)}
    (W : Walks prog w A I [I] [I] n P St) (hI : ∀ i h, St i h → ∃ o, h.get? I = some o) (hx : env.kindOf x = some .local)
    (hp : (env.scope.kind == .class || (env.scope.kind == .module && env.locals != env.globals)) = false)
    (hIL : env.locals ≠ I) (hI₀ : h₀.get? I = none) (hnI : ∀ p ∈ news, p.1 ≠ I)
    (hst : St 0 s.heap) (F : Fr h₀ env.locals s.heap m) (N : News h₀ env.locals s.heap news)
    (J : Nat → (Str → Option Value) → List (Addr × Obj) → Prop) (h0 : J 0 m news)
    (step : ∀ i v m₁ news₁ h tk oI, s.toks ≤ tk → i < n → P i v → J i m₁ news₁ → (∀ p ∈ news₁, p.1 ≠ I) → Fr h₀ env.locals h (fun y => if y = x then some v else m₁ y) → News h₀ env.locals h ((I, oI) :: news₁) →
      wpAny (model prog w) A (execs body env) (TurnT h₀ env.locals I oI (J (i + 1)) { s with heap := h, toks := tk }) (notedBy (model prog w) A env fun e s' => R (.error e) s') { s with heap := h, toks := tk })
    (hR : ∀ h' tk m' news', s.toks ≤ tk → Fr h₀ env.locals h' m' → News h₀ env.locals h' news' → J n m' news' → R (.ok .next) { s with heap := h', toks := tk }) :
    codeAny (model prog w) A (.forLoop (.Name x px) (.ref I) body [] env) R s := by
  have old : ∀ b o, h₀.get? b = some o → b ≠ I := fun b o e hb => by rw [hb, hI₀] at e; cases e
  refine codeAny_forLoop
    (fun k s' => ∃ h' tk m' news' i, s' = { s with heap := h', toks := tk } ∧ s.toks ≤ tk ∧ St i h' ∧ Fr h₀ env.locals h' m' ∧ News h₀ env.locals h' news' ∧ (∀ p ∈ news', p.1 ≠ I) ∧ J i m' news' ∧ i ≤ n ∧ k = n + 1 - i) ?_ (n + 1)
    ⟨s.heap, s.toks, m, news, 0, rfl, Nat.le_refl _, hst, F, N, hnI, h0, Nat.zero_le _, rfl⟩
  rintro k s' ⟨h', tk, m', news', i, rfl, hle, hst', F', N', hnw', hJ, hi, rfl⟩
  have next : ∀ h₁ : Heap, (∀ b o, b ∉ [I] → h'.get? b = some o → h₁.get? b = some o) → Fr h₀ env.locals h₁ m' ∧ News h₀ env.locals h₁ news' := fun h₁ hk₁ =>
    ⟨⟨F'.ns.at' fun o e => hk₁ _ o (fun q => hIL (List.mem_singleton.mp q)) e, fun b o e => hk₁ b o (fun q => old b o e (List.mem_singleton.mp q)) (F'.keep b o e), F'.above⟩,
      fun p hp => ⟨hk₁ _ _ (fun q => hnw' p hp (List.mem_singleton.mp q)) (N' p hp).1, (N' p hp).2⟩⟩
  refine toks_up ?_
  by_cases hlt : i < n
  · refine W.item i _ _ _ hlt hst' fun v h₁ tk₁ hP hst₁ hk₁ htk₁ => ?_
    dsimp only at htk₁
    obtain ⟨F₁, N₁⟩ := next h₁ hk₁
    refine wpAny_assign_Name (wpAny_storeName_local hx F₁.ns (fun h₂ hn₂ hs₂ => ?_) hp)
    have F₂ := F₁.set hn₂ hs₂
    have N₂ := N₁.set hs₂
    have hst₂ : St (i + 1) h₂ := W.frame _ _ _ hst₁ fun b hb o e => (hs₂.2 b fun q => hIL (by rw [← q]; exact List.mem_singleton.mp hb)).trans e
    obtain ⟨oI, heI⟩ := hI _ _ hst₂
    have N₃ : News h₀ env.locals h₂ ((I, oI) :: news') := fun p hp => by
      rcases List.mem_cons.mp hp with rfl | hp
      · exact ⟨heI, fun q => hIL q.symm, hI₀⟩
      · exact N₂ p hp
    refine toks_up (wpAny_mono (step i v m' news' h₂ (tk₁ + 1) oI (Nat.le_succ_of_le (Nat.le_trans hle htk₁)) hlt hP hJ hnw' F₂ N₃) (fun f s₃ h₃ htk₃ => ?_) fun _ _ e => e)
    obtain ⟨rfl, h₃', tk₃, m₂, news₂, rfl, F₃, N₃', hn₃, hJ₃⟩ := h₃
    dsimp only at htk₃
    refine ⟨n + 1 - (i + 1), by omega, h₃', tk₃, m₂, news₂, i + 1, rfl, Nat.le_trans (Nat.le_trans hle htk₁) (Nat.le_of_succ_le htk₃), ?_, F₃, fun p hp => N₃' p (.tail _ hp), hn₃, hJ₃, hlt, rfl⟩
    refine W.frame _ _ _ hst₂ fun b hb o e => ?_
    rw [List.mem_singleton.mp hb] at e ⊢
    rw [heI] at e
    rw [← Option.some.inj e]
    exact (N₃' _ (.head _)).1
  · have hin : i = n := by omega
    subst hin
    refine W.done _ _ _ hst' fun h₁ tk₁ hk₁ htk₁ => wpAny_execs_nil ?_
    obtain ⟨F₁, N₁⟩ := next h₁ hk₁
    exact hR h₁ tk₁ m' news' (Nat.le_trans hle htk₁) F₁ N₁ hJ
/-- the source of a for loop is a range, its turns known -/
def RangeT (prog : Program) (w : World) (A : Around) (h₀ : Heap) (env : Env) (x : Str) (body : List Stmt) (Q : Flow → Shared → Prop) (E : Value → Shared → Prop) (n₀ : Nat) (xv : Value) (s₁ : Shared) : Prop :=
  ∃ (r : Addr) (a b : Int) (t u v : Tok) (m₀ : Str → Option Value) (news : List (Addr × Obj)) (J : Nat → (Str → Option Value) → List (Addr × Obj) → Prop), xv = .ref r ∧ A.handled = none ∧ IsRange s₁.heap r a b 1 t u v ∧ Builtin.Range.small a b 1 = true ∧ Fr h₀ env.locals s₁.heap m₀ ∧ News h₀ env.locals s₁.heap news ∧ J 0 m₀ news ∧
    (∀ i tk' m₁ news₁ h tk I oI, i < (b - a).toNat → n₀ ≤ tk → J i m₁ news₁ → (∀ p ∈ news₁, p.1 ≠ I) → Fr h₀ env.locals h (fun y => if y = x then some (.int (a + (i : Int)) tk') else m₁ y) → News h₀ env.locals h ((I, oI) :: news₁) →
      wpAny (model prog w) A (execs body env) (TurnT h₀ env.locals I oI (J (i + 1)) { s₁ with heap := h, toks := tk }) E { s₁ with heap := h, toks := tk }) ∧
    (∀ m₁ news₁ h tk, n₀ ≤ tk → J (b - a).toNat m₁ news₁ → Fr h₀ env.locals h m₁ → News h₀ env.locals h news₁ → Q .next { s₁ with heap := h, toks := tk })
theorem For_T {E : Value → Shared → Prop} {Q : Flow → Shared → Prop} {px pos : Pos} {iter : PySem.Expr} (h₀ : Heap) (hx : env.kindOf x = some .local)
    (hp : (env.scope.kind == .class || (env.scope.kind == .module && env.locals != env.globals)) = false)
    (h : wpAny (model prog w) A (eval iter env) (fun xv s₁ => RangeT prog w A h₀ env x body Q E s.toks xv s₁) E s)
    (hs : ∀ x, foldedSetIterable iter env x = pure x := by intro _; rfl)
    (hE : PassesOwn (model prog w) A env E := by passes_own) :
    wpAny (model prog w) A (exec (.For (.Name x px) iter body [] pos) env) Q E s := by
  refine wpAny_For (toks_up (wpAny_mono h (fun xv s₁ h₁ hle₀ => ?_) fun _ _ e => e)) hs
  obtain ⟨r, a, b, t, u, v, m₀, news, J, rfl, hh, hr, hsm, F, N, hj, turn, done⟩ := h₁
  refine wpAny_pyIter_range hr hsm ?_
  rw [rangeSize_nat]
  have up : ∀ b' o, s₁.heap.get? b' = some o → (s₁.heap.push { cls := .type "range_iterator", data := .fields #[rawInt a, rawInt ((b - a).toNat : Int), rawInt 1] }).get? b' = some o := fun b' o e => Heap.get?_push_of_some _ e
  refine forLoop_T (R := fun r s' => match r with | .ok f => Q f s' | .error e => cameBackBy (model prog w) A env E e s') (LCg.range_walks hh a (b - a).toNat) (fun i h st => ⟨_, st⟩) hx hp (Nat.ne_of_lt F.ns.lt) (next_is_new F) (fun p hp => Nat.ne_of_lt (Heap.lt_size (N p hp).1))
    (by show IsRangeIter _ _ _ _ _; simpa using Heap.get?_push_size _ rfl) (F.keeps up) (N.grown up) J hj ?_ ?_
  · rintro i v m₁ news₁ h tk oI hle hi ⟨tk', rfl⟩ hJ hn F₁ N₁
    exact wpAny_passesOwn hE (turn i tk' m₁ news₁ h tk _ oI hi (Nat.le_trans hle₀ hle) hJ hn F₁ N₁)
  · intro h' tk m' news' hle F' N' hJ
    exact done m' news' h' tk (Nat.le_trans hle₀ hle) hJ F' N'
end
end TL
end

section
open PySem PySem.W PySem.Spec PySem.Calls PyProof.Rows
set_option linter.unusedVariables false
set_option maxRecDepth 100000
set_option maxHeartbeats 8000000
namespace TL
theorem none_booked {P : Params} {h₀ h : Heap} {L : Addr} {m : Str → Option Value} (X : (hd.heap_39 P).In h₀) (F : Fr h₀ L h m) : NoneBooked h :=
  ⟨fun _ => none, ⟨_, #[], 0, F.keep _ _ (X 2 _ rfl), rfl, fun e he => absurd he (by simp), fun _ => rfl⟩, rfl⟩
section
variable {M : Model} {prog : Program} {w : World} {A : Around} {E : Value → Shared → Prop} {s : Shared}
theorem same_float {x y : UInt64} {t u : Tok} {Q : Bool → Shared → Prop} (ht : t ≠ 0) (hu : u ≠ 0) (hb : NoneBooked s.heap) (hq : ∀ r, (r = true → t = u ∨ x = y) → Q r s) : wpAny M A (isSame (.float x t) (.float y u)) Q E s := by
  show wpAny M A (isSame.created (x == y && !Float64.isNaN x) t u) Q E s
  have h0 : (t == 0 || u == 0) = false := by
    rw [Bool.or_eq_false_iff]
    exact ⟨beq_false_of_ne ht, beq_false_of_ne hu⟩
  unfold isSame.created
  rw [h0]
  simp only [Bool.false_eq_true, if_false]
  by_cases htu : (t == u) = true
  · rw [if_pos htu]
    exact wpAny_pure (hq true fun _ => .inl (eq_of_beq htu))
  rw [if_neg htu]
  cases hc : (x == y && !Float64.isNaN x) with
  | false =>
    simp only [Bool.not_false, if_true]
    exact wpAny_pure (hq false fun h => absurd h Bool.false_ne_true)
  | true =>
    have hxy : x = y := eq_of_beq (Bool.and_eq_true_iff.mp hc).1
    simp only [Bool.not_true, Bool.false_eq_true, if_false]
    refine wpAny_bind (wpAny_sharingNotTold_none hb ?_)
    simp only [Bool.false_eq_true, if_false]
    refine wpAny_bind (wpAny_sharingNotTold_none hb ?_)
    simp only [Bool.false_eq_true, if_false]
    exact wpAny_bind (wpAny_rule (wpAny_bind (wpAny_askSetting (wpAny_pure (hq _ fun _ => .inr hxy)))))
open PySem.SeqAt in
theorem eqAt_float {x y : UInt64} {t u : Tok} {b : Bool} (hb : NoneBooked s.heap) (ht : t ≠ 0) (hu : u ≠ 0) (hv : (Float64.cmp x y == some .eq) = b) (hsame : t = u → b = true) (hxy : x = y → b = true) : EqAt A s (.float x t) (.float y u) b := fun prog w E Q hq => by
  unfold eqBool
  refine wpAny_holding ?_
  refine wpAny_ite_split (fun hab => ?_) (fun hab => ?_)
  · have e : x = y := by have := eq_of_beq hab; injection this
    rw [hxy e] at hq
    exact wpAny_bind (wpAny_rule (wpAny_pure hq))
  · dsimp only
    refine wpAny_bind (same_float ht hu hb fun r hr => ?_)
    cases r with
    | true =>
      have hbt : b = true := (hr rfl).elim hsame hxy
      rw [hbt] at hq
      simp only [if_true]
      exact wpAny_pure hq
    | false =>
      simp only [Bool.false_eq_true, if_false]
      refine wpAny_bind (richCompare_gives (AutoFloatOps.typeIs_float s x t) (AutoFloatOps.typeIs_float s y u) F.slot_float_eq F.entry_float_eq (F.args_float_eq_2 _ _) (AutoFloatG5.float___eq___float_float_0 x t y u) (by simp [Made.takes]) ?_)
      rw [← hv] at hq
      exact wpAny_truthy_bool hq
end
end TL
end

section
open PySem PySem.W PySem.Spec PySem.Calls PyProof.Rows PySem.SeqAt
set_option linter.unusedVariables false
set_option maxRecDepth 100000
set_option maxHeartbeats 8000000
namespace TL
/-- tuple == tuple, three items each, item by item till they differ -/
theorem tup3_eqAt (l b : Addr) (x0 x1 x2 y0 y1 y2 : Value) (n n2 : Nat) (e0 e1 e2 : Bool) :
    Meets (Builtin.«tuple.__eq__» ⟨[.ref l, .ref b], []⟩)
      (fun A R s => s.heap.get? l = some { cls := .type "tuple", data := .seq #[x0, x1, x2] n } ∧ s.heap.get? b = some { cls := .type "tuple", data := .seq #[y0, y1, y2] n2 } ∧
        EqAt A.in1 s x0 y0 e0 ∧ (e0 = true → EqAt A.in1 s x1 y1 e1) ∧ (e0 = true → e1 = true → EqAt A.in1 s x2 y2 e2) ∧ R (.ok (.ret (.bool (e0 && (e1 && e2))))) s) :=
  .of_wp fun prog w A R s h => by
    obtain ⟨hp, g, d, tk, os⟩ := s
    obtain ⟨hl, hb, h0, h1, h2, h⟩ := h
    have f2 := AutoSeq1.sub_tuple_tuple
    have hz : (#[x0, x1, x2] : Array Value).toList.zip (#[y0, y1, y2] : Array Value).toList = [(x0, y0), (x1, y1), (x2, y2)] := rfl
    wp_walk using wpAny_loadPart' hl, wpAny_loadPart' hb, wpAny_forIn_list _ (fun rest b s' => b.1 = none ∧ s' = ⟨hp, g, d, tk, os⟩ ∧
      (rest = [(x0, y0), (x1, y1), (x2, y2)] ∨ (e0 = true ∧ rest = [(x1, y1), (x2, y2)]) ∨ (e0 = true ∧ e1 = true ∧ rest = [(x2, y2)]) ∨ (e0 = true ∧ e1 = true ∧ e2 = true ∧ rest = []))) _
    case turn =>
      rintro ⟨y, x⟩ rest b s' ⟨hb', rfl, hr⟩
      rcases hr with hr | ⟨q0, hr⟩ | ⟨q0, q1, hr⟩ | ⟨_, _, _, hr⟩
      · obtain ⟨e, rfl⟩ := List.cons.inj hr
        obtain ⟨rfl, rfl⟩ := Prod.mk.inj e
        refine wpAny_bind (h0 prog w _ _ ?_)
        cases e0 with
        | true =>
          wp_walk
          exact ⟨rfl, rfl, .inr (.inl ⟨rfl, rfl⟩)⟩
        | false =>
          wp_walk
          exact ⟨_, rfl, by simpa using h⟩
      · obtain ⟨e, rfl⟩ := List.cons.inj hr
        obtain ⟨rfl, rfl⟩ := Prod.mk.inj e
        refine wpAny_bind (h1 q0 prog w _ _ ?_)
        cases e1 with
        | true =>
          wp_walk
          exact ⟨rfl, rfl, .inr (.inr (.inl ⟨q0, rfl, rfl⟩))⟩
        | false =>
          wp_walk
          exact ⟨_, rfl, by simpa [q0] using h⟩
      · obtain ⟨e, rfl⟩ := List.cons.inj hr
        obtain ⟨rfl, rfl⟩ := Prod.mk.inj e
        refine wpAny_bind (h2 q0 q1 prog w _ _ ?_)
        cases e2 with
        | true =>
          wp_walk
          exact ⟨rfl, rfl, .inr (.inr (.inr ⟨q0, q1, rfl, rfl⟩))⟩
        | false =>
          wp_walk
          exact ⟨_, rfl, by simpa [q0, q1] using h⟩
      · cases hr
    case fin =>
      rintro ⟨b1, b2⟩ s' ⟨hb', rfl, hr⟩
      simp only at hb'
      subst hb'
      rcases hr with hr | ⟨_, hr⟩ | ⟨_, _, hr⟩ | ⟨q0, q1, q2, _⟩
      · cases hr
      · cases hr
      · cases hr
      · wp_walk
        exact ⟨_, rfl, by simpa [Builtin.Tuple.tupleCompareSizes, q0, q1, q2] using h⟩
    case h =>
      exact ⟨rfl, rfl, .inl hz⟩
section
variable {prog : Program} {w : World} {A : Around} {E : Value → Shared → Prop} {s : Shared} {h₀ : Heap} {L l b : Addr} {m : Str → Option Value} {news : List (Addr × Obj)}
theorem eq_tup3 {P : Params} {x0 x1 x2 y0 y1 y2 : UInt64} {t0 t1 t2 u0 u1 u2 : Tok} {al : Bool} {Q : Value → Shared → Prop}
    (X : (hd.heap_39 P).In h₀) (F : Fr h₀ L s.heap m) (N : News h₀ L s.heap news) (hl : (l, ({ cls := .type "tuple", data := .seq #[.float x0 t0, .float x1 t1, .float x2 t2] } : Obj)) ∈ news) (hb : (b, ({ cls := .type "tuple", data := .seq #[.float y0 u0, .float y1 u1, .float y2 u2] } : Obj)) ∈ news)
    (hu : A.units < cLine) (z0 : t0 ≠ 0) (z1 : t1 ≠ 0) (z2 : t2 ≠ 0) (v0 : u0 ≠ 0) (v1 : u1 ≠ 0) (v2 : u2 ≠ 0) (d0 : t0 ≠ u0) (d1 : t1 ≠ u1)
    (hx0 : x0 = y0 → (Float64.cmp x0 y0 == some .eq) = true) (hx1 : x1 = y1 → (Float64.cmp x1 y1 == some .eq) = true) (h2 : (Float64.cmp x0 y0 == some .eq) = true → (Float64.cmp x1 y1 == some .eq) = true → (Float64.cmp x2 y2 == some .eq) = true)
    (hal : ((Float64.cmp x0 y0 == some .eq) && ((Float64.cmp x1 y1 == some .eq) && (Float64.cmp x2 y2 == some .eq))) = al) (h : Q (.bool al) s) :
    wpAny (model prog w) A (compareOp .Eq (.ref l) (.ref b)) Q E s := by
  have hN := none_booked X F
  show wpAny _ A (richCompare .Eq _ _) Q E s
  have hl' := (N _ hl).1
  have hb' := (N _ hb).1
  subst hal
  refine richCompare_meets_room (op := .Eq) ⟨_, hl', rfl⟩ ⟨_, hb', rfl⟩ PySem.F.slot_tuple_eq PySem.F.entry_tuple_eq (PySem.F.args_tuple_eq_2 _ _) (tup3_eqAt l b _ _ _ _ _ _ 0 0 (Float64.cmp x0 y0 == some .eq) (Float64.cmp x1 y1 == some .eq) (Float64.cmp x2 y2 == some .eq))
    ⟨hl', hb', eqAt_float hN z0 v0 rfl (fun e => absurd e d0) hx0, fun _ => eqAt_float hN z1 v1 rfl (fun e => absurd e d1) hx1, fun q0 q1 => eqAt_float hN z2 v2 rfl (fun _ => h2 q0 q1) (fun _ => h2 q0 q1), ⟨(fun x => nomatch x), h⟩⟩ hu
end
end TL
end

section
open PySem PySem.W PySem.Spec PySem.Calls PyProof.Rows
set_option linter.unusedVariables false
set_option maxRecDepth 100000
set_option maxHeartbeats 8000000
namespace TL
/-- the share of the first thief -/
def shOf (ns : List Int) (a b : Int) : List Int := List.take a.toNat ns ++ List.take (min (4 + b).toNat ns.length - (a + b).toNat) (List.drop (a + b).toNat ns)
def eqFb (x y : UInt64) : Bool := Float64.cmp x y == some .eq
/-- the share's hue, share and doubled level are the whole's -/
def alikeF (sh ns : List Int) (light : Bool) : Bool := eqFb (hueOf sh light).1 (hueOf ns light).1 && (eqFb (hueOf sh light).2.1 (hueOf ns light).2.1 && eqFb (Float64.mul (Float64.ofInt 2) (hueOf sh light).2.2) (hueOf ns light).2.2)
def wsEq (v u : WsV) : Bool := decide (v.k = u.k ∧ v.b = u.b)
def ovr (mm : Str → Option Value) : List (Str × Value) → Str → Option Value
  | [] => mm
  | (x, v) :: r => fun y => if y = x then some v else ovr mm r y
theorem ovr_eq {mm : Str → Option Value} : ∀ {l : List (Str × Value)}, (∀ p ∈ l, mm p.1 = some p.2) → ovr mm l = mm
  | [], _ => rfl
  | (x, v) :: r, h => by
    have ih := ovr_eq (l := r) fun p hp => h p (.tail _ hp)
    funext y
    show (if y = x then some v else ovr mm r y) = mm y
    rw [ih]
    by_cases e : y = x
    · rw [if_pos e, e]; exact (h (x, v) (.head _)).symm
    · rw [if_neg e]
section
variable {prog : Program} {w : World} {A : Around} {E : Value → Shared → Prop} {s : Shared} {Q : Value → Shared → Prop}
theorem cmp_bool {x y : Int} {t u : Tok} {r : Bool} (hr : (x == y) = r) (h : Q (.bool r) s) : wpAny (model prog w) A (compareOp .Eq (.int x t) (.int y u)) Q E s := by
  subst hr
  exact PyProof.Rows.eq_int h
theorem item_whole {h₀ : Heap} {L WH W0 W1 : Addr} {news : List (Addr × Obj)} {j : Nat} {light : Bool} {u : Tok} {value slice : PySem.Expr}
    (N : News h₀ L s.heap news) (hm : (WH, W.listOf #[.ref W0, .ref W1] j) ∈ news) (h : Q (.ref (if light = true then W1 else W0)) s)
    (hs : subscripted slice false (.ref WH) (.int (if light = true then 1 else 0) u) = operate [.ref WH, .int (if light = true then 1 else 0) u] (getItem (.ref WH) (.int (if light = true then 1 else 0) u)) := by with_unfolding_all rfl) :
    wpAny (model prog w) A (subscriptTail value slice (.ref WH) (.int (if light = true then 1 else 0) u)) Q E s := by
  have hl : s.heap.IsList WH #[.ref W0, .ref W1] := ⟨_, (N _ hm).1, rfl, _, rfl⟩
  cases light with
  | true => exact tail_any hl.typeIs slot_list_getitem.lookup (wpAny_getItem_list hl (by decide) (by decide) rfl h) hs
  | false => exact tail_any hl.typeIs slot_list_getitem.lookup (wpAny_getItem_list hl (by decide) (by decide) rfl h) hs
end
section
variable {prog : Program} {w : World} {A : Around} {E : Value → Shared → Prop} {s : Shared} {Q : Value → Shared → Prop} {h₀ : Heap} {L D : Addr} {news : List (Addr × Obj)} {v0 v1 v2 : Value} {j : Nat} {u : Tok} {value slice : PySem.Expr}
theorem item_t0 (N : News h₀ L s.heap news) (hm : (D, ({ cls := .type "tuple", data := .seq #[v0, v1, v2] j } : Obj)) ∈ news) (h : Q v0 s)
    (hs : subscripted slice false (.ref D) (.int 0 u) = operate [.ref D, .int 0 u] (getItem (.ref D) (.int 0 u)) := by with_unfolding_all rfl) : wpAny (model prog w) A (subscriptTail value slice (.ref D) (.int 0 u)) Q E s :=
  item_tupleT (j := 0) ⟨_, (N _ hm).1, rfl, _, rfl⟩ (by decide) (by decide) rfl rfl h hs
theorem item_t1 (N : News h₀ L s.heap news) (hm : (D, ({ cls := .type "tuple", data := .seq #[v0, v1, v2] j } : Obj)) ∈ news) (h : Q v1 s)
    (hs : subscripted slice false (.ref D) (.int 1 u) = operate [.ref D, .int 1 u] (getItem (.ref D) (.int 1 u)) := by with_unfolding_all rfl) : wpAny (model prog w) A (subscriptTail value slice (.ref D) (.int 1 u)) Q E s :=
  item_tupleT (j := 1) ⟨_, (N _ hm).1, rfl, _, rfl⟩ (by decide) (by decide) rfl rfl h hs
theorem item_t2 (N : News h₀ L s.heap news) (hm : (D, ({ cls := .type "tuple", data := .seq #[v0, v1, v2] j } : Obj)) ∈ news) (h : Q v2 s)
    (hs : subscripted slice false (.ref D) (.int 2 u) = operate [.ref D, .int 2 u] (getItem (.ref D) (.int 2 u)) := by with_unfolding_all rfl) : wpAny (model prog w) A (subscriptTail value slice (.ref D) (.int 2 u)) Q E s :=
  item_tupleT (j := 2) ⟨_, (N _ hm).1, rfl, _, rfl⟩ (by decide) (by decide) rfl rfl h hs
end
end TL
end

section
open PySem PySem.W PySem.Spec PySem.Calls PyProof.Rows
set_option linter.unusedVariables false
set_option maxRecDepth 100000
set_option maxHeartbeats 8000000
namespace TL
/-- what the rows are reckoned from: the counts here and there -/
def hereF (sh : List Int) (light : Bool) : Nat → Int := countsOf (hueOf sh light).1 (hueOf sh light).2.1 (hueOf sh light).2.2 light false
def thereF (ns : List Int) (light : Bool) : Nat → Int := countsOf (hueOf ns light).1 (hueOf ns light).2.1 (Float64.div (hueOf ns light).2.2 (Float64.ofInt 2)) light light
def rowsP (sh ns : List Int) (light : Bool) (n : Nat) : List (Int × Int × Int) := (List.range n).map fun (j : Nat) => (1 + (j : Int), colOf (hereF sh light) (1 + (j : Int)), colOf (thereF ns light) (1 + (j : Int)) + 1)
def toldP (sh ns : List Int) (light : Bool) (n : Nat) : List (Int × Int × Int) := (rowsP sh ns light n).filter fun r => r.2.1 != r.2.2
def swapP (r : Int × Int × Int) : Int × Int × Int := (r.1, r.2.2, r.2.1)
/-- the plain law of a = 0 -/
def RowsOk (sh ns : List Int) (light : Bool) (v vM : WsV) : Prop :=
  countsOk (hueOf sh light).1 (hueOf sh light).2.1 (hueOf sh light).2.2 light false = true ∧ countsOk (hueOf ns light).1 (hueOf ns light).2.1 (Float64.div (hueOf ns light).2.2 (Float64.ofInt 2)) light light = true ∧
    v.k.length ≤ 3 ∧ vM.k.length ≤ 3 ∧ maxI (runOf v) (runOf vM) ≤ 3 ∧ maxI (runOf vM) (runOf v) ≤ 3 ∧
    ∀ M ∈ ns, (∀ x ∈ ns, x ≤ M) → neOf v vM = toldP sh ns light ((maxI M 1) + 1).toNat ∧ neOf vM v = (toldP sh ns light ((maxI M 1) + 1).toNat).map swapP
end TL
end

section
open PySem PySem.W PySem.Spec PySem.Calls PyProof.Rows
set_option maxRecDepth 100000
set_option maxHeartbeats 8000000
namespace TL
/-- the triples of a sum -/
def tri4 : List (Nat × Nat × Nat) := [(4,0,0),(3,1,0),(3,0,1),(2,2,0),(2,1,1),(2,0,2),(1,3,0),(1,2,1),(1,1,2),(1,0,3),(0,4,0),(0,3,1),(0,2,2),(0,1,3),(0,0,4)]
def hueC (a b c : Nat) (light : Bool) : UInt64 × UInt64 × UInt64 :=
  if light = true then ((hlsOf (six a) (six b) (six c)).1, (hlsOf (six a) (six b) (six c)).2.2, (hlsOf (six a) (six b) (six c)).2.1) else hsvOf (six a) (six b) (six c)
def preC (a b c : Nat) (light : Bool) : Bool := if light = true then hlsPre (six a) (six b) (six c) else hsvPre (six a) (six b) (six c)
theorem pre4 : ∀ t ∈ tri4, preC t.1 t.2.1 t.2.2 false = true ∧ preC t.1 t.2.1 t.2.2 true = true := by decide +kernel
theorem pre8 : ∀ t ∈ tri4, preC (2 * t.1) (2 * t.2.1) (2 * t.2.2) false = true ∧ preC (2 * t.1) (2 * t.2.1) (2 * t.2.2) true = true := by decide +kernel
def alikeC (s h : Nat × Nat × Nat) (light : Bool) : Bool :=
  eqFb (hueC s.1 s.2.1 s.2.2 light).1 (hueC (2 * h.1) (2 * h.2.1) (2 * h.2.2) light).1 && (eqFb (hueC s.1 s.2.1 s.2.2 light).2.1 (hueC (2 * h.1) (2 * h.2.1) (2 * h.2.2) light).2.1 && eqFb (Float64.mul (Float64.ofInt 2) (hueC s.1 s.2.1 s.2.2 light).2.2) (hueC (2 * h.1) (2 * h.2.1) (2 * h.2.2) light).2.2)
/-- alike just if the counts are; a hue and a share tell the level -/
def alikeOk (s h : Nat × Nat × Nat) (light : Bool) : Bool :=
  (alikeC s h light == decide (s = h)) && (!(eqFb (hueC s.1 s.2.1 s.2.2 light).1 (hueC (2 * h.1) (2 * h.2.1) (2 * h.2.2) light).1 && eqFb (hueC s.1 s.2.1 s.2.2 light).2.1 (hueC (2 * h.1) (2 * h.2.1) (2 * h.2.2) light).2.1) || eqFb (Float64.mul (Float64.ofInt 2) (hueC s.1 s.2.1 s.2.2 light).2.2) (hueC (2 * h.1) (2 * h.2.1) (2 * h.2.2) light).2.2)
theorem alike4f : ∀ s ∈ tri4, ∀ h ∈ tri4, alikeOk s h false = true := by decide +kernel
theorem alike4t : ∀ s ∈ tri4, ∀ h ∈ tri4, alikeOk s h true = true := by decide +kernel
theorem self4 : ∀ s ∈ tri4, (eqFb (hueC s.1 s.2.1 s.2.2 false).1 (hueC s.1 s.2.1 s.2.2 false).1 && eqFb (hueC s.1 s.2.1 s.2.2 false).2.1 (hueC s.1 s.2.1 s.2.2 false).2.1 && eqFb (hueC s.1 s.2.1 s.2.2 true).1 (hueC s.1 s.2.1 s.2.2 true).1 && eqFb (hueC s.1 s.2.1 s.2.2 true).2.1 (hueC s.1 s.2.1 s.2.2 true).2.1) = true := by decide +kernel
def hereC (s : Nat × Nat × Nat) (light : Bool) : Nat → Int := countsOf (hueC s.1 s.2.1 s.2.2 light).1 (hueC s.1 s.2.1 s.2.2 light).2.1 (hueC s.1 s.2.1 s.2.2 light).2.2 light false
def thereC (h : Nat × Nat × Nat) (light : Bool) : Nat → Int := countsOf (hueC (2 * h.1) (2 * h.2.1) (2 * h.2.2) light).1 (hueC (2 * h.1) (2 * h.2.1) (2 * h.2.2) light).2.1 (Float64.div (hueC (2 * h.1) (2 * h.2.1) (2 * h.2.2) light).2.2 (Float64.ofInt 2)) light light
def hereOk (s : Nat × Nat × Nat) (light : Bool) : Bool := countsOk (hueC s.1 s.2.1 s.2.2 light).1 (hueC s.1 s.2.1 s.2.2 light).2.1 (hueC s.1 s.2.1 s.2.2 light).2.2 light false && (hereC s light 0 == (s.1 : Int)) && (hereC s light 1 == (s.2.1 : Int)) && (hereC s light 2 == (s.2.2 : Int))
def thereOk (h : Nat × Nat × Nat) (light : Bool) : Bool := countsOk (hueC (2 * h.1) (2 * h.2.1) (2 * h.2.2) light).1 (hueC (2 * h.1) (2 * h.2.1) (2 * h.2.2) light).2.1 (Float64.div (hueC (2 * h.1) (2 * h.2.1) (2 * h.2.2) light).2.2 (Float64.ofInt 2)) light light && (thereC h light 0 == (h.1 : Int)) && (thereC h light 1 == (h.2.1 : Int)) && (thereC h light 2 == (h.2.2 : Int))
theorem here4 : ∀ s ∈ tri4, hereOk s false = true ∧ hereOk s true = true := by decide +kernel
theorem there4 : ∀ s ∈ tri4, thereOk s false = true ∧ thereOk s true = true := by decide +kernel
end TL
end

section
open PySem PySem.W PySem.Spec PySem.Calls PyProof.Rows
set_option maxRecDepth 100000
set_option maxHeartbeats 8000000
namespace TL
def ext3 (l : List (List Int)) : List (List Int) := l.flatMap fun x => [0 :: x, 1 :: x, 2 :: x]
def all81 : List (List Int) := ext3 (ext3 (ext3 (ext3 [[]])))
def cnt (l : List Int) : Nat × Nat × Nat := (l.count 0, l.count 1, l.count 2)
def rep (h : Nat × Nat × Nat) : List Int := rep3 h.1 h.2.1 h.2.2
def wsOk (v : WsV) (c h : Nat × Nat × Nat) : Bool :=
  (wsEq v (wsRun (leadCodes (rep h) 0)) == decide (c = h)) && (wsEq v (wsRun (leadCodes (rep h) 1)) == false) && (wsEq v (wsRun (leadCodes (0 :: rep h) 0)) == false)
def cF (c : Nat × Nat × Nat) : Nat → Int
  | 0 => c.1
  | 1 => c.2.1
  | _ => c.2.2
def toldI (c h : Nat × Nat × Nat) (n : Nat) : List (Int × Int × Int) := ((List.range n).map fun (j : Nat) => (1 + (j : Int), colOf (cF c) (1 + (j : Int)), colOf (cF h) (1 + (j : Int)) + 1)).filter fun r => r.2.1 != r.2.2
def topOf (h : Nat × Nat × Nat) : Int := if h.2.2 ≠ 0 then 2 else if h.2.1 ≠ 0 then 1 else 0
def rowsB (v : WsV) (c h : Nat × Nat × Nat) : Bool :=
  !(decide (c.1 ≤ 2 * h.1) && decide (c.2.1 ≤ 2 * h.2.1) && decide (c.2.2 ≤ 2 * h.2.2)) ||
    (decide (v.k.length ≤ 3) && decide ((wsRun (leadCodes (rep h) 1)).k.length ≤ 3) && decide (maxI (runOf v) (runOf (wsRun (leadCodes (rep h) 1))) ≤ 3) && decide (maxI (runOf (wsRun (leadCodes (rep h) 1))) (runOf v) ≤ 3) &&
      (neOf v (wsRun (leadCodes (rep h) 1)) == toldI c h (maxI (topOf h) 1 + 1).toNat) && (neOf (wsRun (leadCodes (rep h) 1)) v == (toldI c h (maxI (topOf h) 1 + 1).toNat).map swapP))
theorem ws81 : ∀ sh ∈ all81, ∀ h ∈ tri4, wsOk (wsRun (leadCodes sh 0)) (cnt sh) h = true := by decide +kernel
theorem rows81 : ∀ sh ∈ all81, ∀ h ∈ tri4, rowsB (wsRun (leadCodes sh 0)) (cnt sh) h = true := by decide +kernel
end TL
end

section
open PySem PySem.W PySem.Spec PySem.Calls PyProof.Rows
set_option linter.unusedVariables false
set_option maxRecDepth 100000
set_option maxHeartbeats 8000000
namespace TL
section
variable {prog : Program} {w : World} {A : Around} {h₀ : Heap} {L : Addr} {m : Str → Option Value} {env : Env} {elt ct : PySem.Expr} {x : Str} {scope : Scope} {cl : List (Str × Addr)} {s : Shared} {S : List (Addr × Obj) → Prop} {P : Nat → Value → Prop} {Fin : List Value → List (Addr × Obj) → Prop} {base news : List (Addr × Obj)}
/-- a comprehension whose elements are data, new objects on the ledger -/
theorem comp_dat {n : Nat} (g : Nat → Dat)
    (turn : ∀ i v I oI C oC D m₂ ys nw h tk (E' : Value → Shared → Prop), i < n → P i v → LCg.NsObj oC m₂ → m₂ x = some v → Fr h₀ L h m → News h₀ L h ((I, oI) :: (C, oC) :: (D, LCg.lst ys) :: nw) → LCg.Off3 I C D nw → (∀ p ∈ base, p ∈ nw) → ((@Ne Nat I C) ∧ (@Ne Nat I D) ∧ (@Ne Nat C D)) →
      wpAny (model prog w) A (eval elt (compEnvC scope cl C env)) (LCg.CompEnd h₀ L m { s with heap := h, toks := tk } I oI C oC D (LCg.lst ys) (fun _ => True) (fun y nw' => (∀ p ∈ nw, p ∈ nw') ∧ DatIn nw' y (g i))) E' { s with heap := h, toks := tk })
    (hS : ∀ nw, (∀ p ∈ base, p ∈ nw) → S nw)
    (fin : ∀ ys nw, ys.length = n → (∀ p ∈ base, p ∈ nw) → DatAll nw ys ((List.range n).map g) → Fin ys nw) : LCg.CompRest prog w A h₀ L m env elt x scope cl s S P Fin n 0 [] base := by
  have key : ∀ (j i : Nat) (ys : List Value) (nw : List (Addr × Obj)), i + j = n → ys.length = i → (∀ p ∈ base, p ∈ nw) → DatAll nw ys ((List.range i).map g) → LCg.CompRest prog w A h₀ L m env elt x scope cl s S P Fin j i ys nw := by
    intro j
    induction j with
    | zero =>
      intro i ys nw hi hl hb hd
      have : i = n := by omega
      subst this
      exact LCg.CompRest.zero (fin ys nw hl hb hd)
    | succ j ih =>
      intro i ys nw hi hl hb hd
      refine LCg.CompRest.succ ?_
      intro v I oI C oC D m₂ h tk E' hP hC hx F N off ne
      refine wpAny_mono (turn i v I oI C oC D m₂ ys nw h tk E' (by omega) hP hC hx F N off hb ne) (fun y s₂ hq => ?_) fun _ _ e => e
      obtain ⟨h', tk', nw', e, F', N', off', _, hs, hy⟩ := hq
      refine ⟨h', tk', nw', e, F', N', off', hS nw' fun p hp => hs p (hb p hp), ih (i + 1) _ nw' (by omega) (by rw [List.length_append, hl]; rfl) (fun p hp => hs p (hb p hp)) ?_⟩
      rw [List.range_succ, List.map_append]
      exact DatAll.append (DatAll.mono hs hd) (.cons hy .nil)
  exact key n 0 [] base (by omega) rfl (fun _ h => h) .nil
theorem comp_endD {nw all : List (Addr × Obj)} {I C D T : Addr} {s₁ : Shared} {oI oC oD o : Obj} {y : Value} {d : Dat} {h' : Heap} {tk : Nat}
    (F : Fr h₀ L h' m) (N : News h₀ L h' all) (sub : ∀ p ∈ (I, oI) :: (C, oC) :: (D, oD) :: (T, o) :: nw, p ∈ all) (off : LCg.Off3 I C D nw) (o1 : @Ne Nat T I) (o2 : @Ne Nat T C) (o3 : @Ne Nat T D) (r : DatIn ((T, o) :: nw) y d) :
    LCg.CompEnd h₀ L m s₁ I oI C oC D oD (fun _ => True) (fun y nw' => (∀ p ∈ nw, p ∈ nw') ∧ DatIn nw' y d) y { s₁ with heap := h', toks := tk } :=
  ⟨h', tk, (T, o) :: nw, rfl, F, fun p hp => N p (sub p hp), ⟨⟨o1, o2, o3⟩, off⟩, trivial, fun p hp => .tail _ hp, r⟩
/-- a row of a list of rows -/
theorem row_at {us : List Value} {rs : List (Int × Int × Int)} (h : DatAll news us (rs.map rowD)) {i : Nat} {v : Value} (hv : us[i]? = some v) :
    ∃ (r : Int × Int × Int) (a : Addr) (t1 t2 t3 : Tok) (k : Nat), rs[i]? = some r ∧ v = .ref a ∧ (a, ({ cls := .type "tuple", data := .seq #[.int r.1 t1, .int r.2.1 t2, .int r.2.2 t3] k } : Obj)) ∈ news := by
  have hl := h.length
  have hlt : i < us.length := (List.getElem?_eq_some_iff.mp hv).1
  have hk : i < (rs.map rowD).length := by omega
  obtain ⟨v', hv', hd⟩ := h.get hk
  rw [hv] at hv'
  obtain rfl := Option.some.inj hv'
  have hkr : i < rs.length := by rw [List.length_map] at hk; exact hk
  rw [List.getElem_map] at hd
  refine ⟨rs[i], ?_⟩
  have hr : rs[i]? = some (rs[i]'hkr) := List.getElem?_eq_getElem hkr
  generalize rs[i]'hkr = r at hd hr
  unfold rowD at hd
  cases hd with
  | tuple hm hall =>
    cases hall with
    | cons h1 hall => cases hall with
      | cons h2 hall => cases hall with
        | cons h3 hall => cases hall with
          | nil =>
            cases h1 with
            | int _ t1 => cases h2 with
              | int _ t2 => cases h3 with
                | int _ t3 => exact ⟨_, t1, t2, t3, _, hr, rfl, hm⟩
/-- the rows of a list that pass a test -/
theorem comp_tell {us : List Value} {rs : List (Int × Int × Int)} (p : Int × Int × Int → Bool) (hus : DatAll news us (rs.map rowD))
    (turn : ∀ (i : Nat) r a t1 t2 t3 k I oI C oC D m₂ ys h tk (E' : Value → Shared → Prop), rs[i]? = some r → (a, ({ cls := .type "tuple", data := .seq #[.int r.1 t1, .int r.2.1 t2, .int r.2.2 t3] k } : Obj)) ∈ news → LCg.NsObj oC m₂ → m₂ x = some (.ref a) → Fr h₀ L h m → News h₀ L h ((I, oI) :: (C, oC) :: (D, LCg.lst ys) :: news) → LCg.Off3 I C D news → ((@Ne Nat I C) ∧ (@Ne Nat I D) ∧ (@Ne Nat C D)) →
      wpAny (model prog w) A (isTrue ct (compEnvC scope cl C env) (eval ct (compEnvC scope cl C env))) (fun ok s' => if ok = true then
        wpAny (model prog w) A (eval elt (compEnvC scope cl C env)) (LCg.CompEnd h₀ L m { s with heap := h, toks := tk } I oI C oC D (LCg.lst ys) S (fun y news' => news' = news ∧ (y = .ref a ∧ p r = true))) E' s'
        else LCg.CompEnd h₀ L m { s with heap := h, toks := tk } I oI C oC D (LCg.lst ys) S (fun _ news' => news' = news ∧ p r = false) Value.none s') E' { s with heap := h, toks := tk })
    (fin : ∀ ys, DatAll news ys ((rs.filter p).map rowD) → Fin ys news) : LCt.CompRestT prog w A h₀ L m env ct elt x scope cl s S (fun i v => us.toArray[i]? = some v) Fin us.toArray.size 0 [] news := by
  have hlen : us.length = rs.length := by rw [hus.length, List.length_map]
  have key : ∀ (j i : Nat) (ys : List Value), i + j = us.length → DatAll news ys (((rs.take i).filter p).map rowD) → LCt.CompRestT prog w A h₀ L m env ct elt x scope cl s S (fun i v => us.toArray[i]? = some v) Fin j i ys news := by
    intro j
    induction j with
    | zero =>
      intro i ys hi hd
      rw [List.take_of_length_le (by omega)] at hd
      exact LCt.CompRestT.zero (fin ys hd)
    | succ j ih =>
      intro i ys hi hd
      refine LCt.CompRestT.succ ?_
      intro v I oI C oC D m₂ h tk E' hP hC hx F N off ne
      obtain ⟨r, a, t1, t2, t3, k, hr, rfl, hm⟩ := row_at hus (by simpa using hP)
      have ht : rs.take (i + 1) = rs.take i ++ [r] := by rw [List.take_add_one, hr]; rfl
      refine wpAny_mono (turn i r a t1 t2 t3 k I oI C oC D m₂ ys h tk E' hr hm hC hx F N off ne) (fun ok s₂ hq => ?_) fun _ _ e => e
      cases ok with
      | true =>
        simp only [if_true] at hq ⊢
        refine wpAny_mono hq (fun y s₃ hq => ?_) fun _ _ e => e
        obtain ⟨h', tk', nw', e, F', N', off', hS', hn, rfl, hp⟩ := hq
        subst hn
        refine ⟨h', tk', nw', e, F', N', off', hS', ih (i + 1) _ (by omega) ?_⟩
        rw [ht, List.filter_append, List.map_append]
        refine DatAll.append hd ?_
        rw [show [r].filter p = [r] by simp [hp]]
        exact .cons (.tuple (vs := [.int _ t1, .int _ t2, .int _ t3]) hm (.cons (.int _ _) (.cons (.int _ _) (.cons (.int _ _) .nil)))) .nil
      | false =>
        simp only [Bool.false_eq_true, if_false] at hq ⊢
        obtain ⟨h', tk', nw', e, F', N', off', hS', hn, hp⟩ := hq
        subst hn
        refine ⟨h', tk', nw', e, F', N', off', hS', ih (i + 1) _ (by omega) ?_⟩
        rw [ht, List.filter_append, List.map_append, show [r].filter p = [] by simp [hp]]
        rw [List.map_nil, List.append_nil]
        exact hd
  rw [List.size_toArray]
  exact key us.length 0 [] (by omega) .nil
end
theorem rows_ok (rs : List (Int × Int × Int)) : kqdOk 8 (.list (rs.map rowD)) = true := by
  simp [kqdOk, rowD]
theorem ne_rows {prog : Program} {w : World} {A : Around} {E : Value → Shared → Prop} {s : Shared} {h₀ : Heap} {L a b : Addr} {all : List (Addr × Obj)} {ws us : List Value} {j k : Nat} {rs rs' : List (Int × Int × Int)} {Q : Value → Shared → Prop}
    (N : News h₀ L s.heap all) (hA : (a, W.listOf (List.toArray ws) j) ∈ all) (hB : (b, W.listOf (List.toArray us) k) ∈ all) (ha : DatAll all ws (rs.map rowD)) (hb : DatAll all us (rs'.map rowD)) (e : rs = rs') (hu : A.units + 64 < cLine) (h : Q (.bool false) s) :
    wpAny (model prog w) A (compareOp .NotEq (.ref a) (.ref b)) Q E s :=
  dat_ne (r := true) N (.list hA ha) (.list hB hb) (rows_ok rs) (rows_ok rs') (by rw [e]; exact ⟨fun _ => rfl, fun _ => rfl⟩) hu h
theorem swap_map (rs : List (Int × Int × Int)) : (List.range rs.length).map (fun i => rowD (swapP (rs.getD i (0, 0, 0)))) = (rs.map swapP).map rowD := by
  rw [List.map_map]
  refine List.ext_getElem (by simp) fun i h1 h2 => ?_
  have hi : i < rs.length := by simpa using h2
  simp [List.getD_eq_getElem?_getD, List.getElem?_eq_getElem hi]
theorem news_three {h₀ h : Heap} {L a b : Addr} {o1 o2 : Obj} {nb all : List (Addr × Obj)} (N : News h₀ L h all) (h2 : (a, o2) ∈ all) (h1 : (b, o1) ∈ all) (hn : ∀ p ∈ nb, p ∈ all) : News h₀ L h ((a, o2) :: (b, o1) :: nb) := by
  intro p hp
  rcases List.mem_cons.mp hp with rfl | hp
  · exact N _ h2
  rcases List.mem_cons.mp hp with rfl | hp
  · exact N _ h1
  · exact N _ (hn _ hp)
theorem told_le (sh ns : List Int) (light : Bool) (n : Nat) : (toldP sh ns light n).length ≤ n := by
  refine Nat.le_trans (List.length_filter_le _ _) ?_
  unfold rowsP
  simp
theorem mx_range {M : Int} (h : 0 ≤ M ∧ M ≤ 2) : Builtin.Range.small 1 ((if 1 > M then 1 else M) + 2) 1 = true ∧ Builtin.Range.rangeSize 1 ((if 1 > M then 1 else M) + 2) 1 = (((maxI M 1 + 1).toNat : Nat) : Int) ∧ (maxI M 1 + 1).toNat ≤ 3 := by
  obtain rfl | rfl | rfl : M = 0 ∨ M = 1 ∨ M = 2 := int012 (by first | assumption | exact ⟨by assumption, by assumption⟩)
  all_goals exact ⟨by decide, by decide, by decide⟩
end TL
end

section
open PySem PySem.W PySem.Spec PySem.Calls PyProof.Rows
set_option linter.unusedVariables false
set_option maxRecDepth 100000
set_option maxHeartbeats 8000000
namespace TL
theorem law_turn2 (w : World) (mean : ExcName → Option Value) (mg mb : Str → Option Value) (h₀ : Heap) (L : Addr) (fa : Addr) (ccd : Value) (mm : Str → Option Value) (s : Shared) (Q : Flow → Shared → Prop) (E : Value → Shared → Prop)
    (ns sh : List Int) (av : Int) (light : Bool) (K LD MO SE WD : Addr) (kv : List Value) (jk : Nat) (ta t1 t2 t3 u1 u2 u3 : Tok) (v vM : WsV) (nb : List (Addr × Obj)) (o1 o2 : Obj) (v1 v2 : Option Value)
    (hw : ns.length = 8) (hns : ∀ x ∈ ns, 0 ≤ x ∧ x ≤ 2) (hrows : av = 0 → RowsOk sh ns light v vM)
    (hI : IntsAre kv ns) (hK : (K, W.listOf kv.toArray jk) ∈ nb) (hLD : IsWs w.params nb LD v) (hMO : IsWs w.params nb MO vM) (hse : (SE, tup3 (hueOf sh light) t1 t2 t3) ∈ nb) (hwd : (WD, tup3 (hueOf ns light) u1 u2 u3) ∈ nb)
    (f4 : ∀ p ∈ nb, p.1 ≠ L + 1 + 1) (f5 : ∀ p ∈ nb, p.1 ≠ L + 1)
    (mK : mm (Str.ofString "kinds") = some (.ref K)) (mLD : mm (Str.ofString "lead") = some (.ref LD)) (mMO : mm (Str.ofString "more") = some (.ref MO)) (mSE : mm (Str.ofString "seen") = some (.ref SE)) (mDU : mm (Str.ofString "due") = some (.ref WD)) (mLI : mm (Str.ofString "light") = some (.bool light)) (ma : mm (Str.ofString "a") = some (.int av ta)) :
    ∀ (B : Below callerA h₀ [] h₀) (F : Fr h₀ L s.heap mm) (X : (hd.heap_39 w.params).In h₀) (N : News h₀ L s.heap ((L + 1 + 1, o2) :: (L + 1, o1) :: nb))
    (T : Top hd.view_39 (looseW hd.view_39 [Str.ofString "Whitespace", Str.ofString "ONE_THIRD", Str.ofString "ONE_SIXTH", Str.ofString "TWO_THIRD"]) mean mg mb h₀)
    (d2 : o2.data = .cell v2) (d1 : o1.data = .cell v1)
    (hret : ∀ (o1' o2' : Obj) (v1' v2' : Option Value) (m' : Str → Option Value) (h' : Heap) (tk' : Nat), (∀ y, y ≠ Str.ofString "rows" → y ≠ Str.ofString "told" → m' y = mm y) →
      Fr h₀ L h' m' → News h₀ L h' ((L + 1 + 1, o2') :: (L + 1, o1') :: nb) → o2'.data = .cell v2' → o1'.data = .cell v1' → Q .next { s with heap := h', toks := tk' }),
    wpAny (model Challenge.rw_tl0040_01.row.prog w) (callerA.deeper (envOfC (Str.ofString "law") lawScope L fa ccd)) (execs (lawTurn.drop 8) (envOfC (Str.ofString "law") lawScope L fa ccd)) Q E s := by
  k_fill
  w_top on
  w_on
  k_with_none
  k_with "TL lt0" => (first | (with_reducible assumption) | (refine lt_t ?_ (by with_reducible assumption); k_extra "TL lt0") | (with_reducible exact And.left (by assumption)) | (with_reducible exact And.left (And.right (by assumption))) | (with_reducible exact And.left (And.right (And.right (by assumption)))) | (with_reducible exact And.left (And.right (And.right (And.right (by assumption))))) | (with_reducible exact And.left (And.right (And.right (And.right (And.right (by assumption)))))) | (with_reducible exact And.left (And.right (And.right (And.right (And.right (And.right (by assumption))))))) | (with_reducible exact And.left (And.right (And.right (And.right (And.right (And.right (And.right (by assumption)))))))) | (with_reducible exact And.left (And.right (And.right (And.right (And.right (And.right (And.right (And.right (by assumption))))))))) | (with_reducible exact And.left (And.right (And.right (And.right (And.right (And.right (And.right (And.right (And.right (by assumption)))))))))) | (with_reducible exact And.left (And.right (And.right (And.right (And.right (And.right (And.right (And.right (And.right (And.right (by assumption))))))))))) | (with_reducible exact And.left (And.right (And.right (And.right (And.right (And.right (And.right (And.right (And.right (And.right (And.right (by assumption)))))))))))) | (with_reducible exact And.left (And.right (And.right (And.right (And.right (And.right (And.right (And.right (And.right (And.right (And.right (And.right (by assumption))))))))))))) | (with_reducible exact And.left (And.right (And.right (And.right (And.right (And.right (And.right (And.right (And.right (And.right (And.right (And.right (And.right (by assumption)))))))))))))) | (with_reducible exact And.left (And.right (And.right (And.right (And.right (And.right (And.right (And.right (And.right (And.right (And.right (And.right (And.right (And.right (by assumption))))))))))))))) | (with_reducible exact And.left (And.right (And.right (And.right (And.right (And.right (And.right (And.right (And.right (And.right (And.right (And.right (And.right (And.right (And.right (by assumption)))))))))))))))) | (with_reducible exact And.left (And.right (And.right (And.right (And.right (And.right (And.right (And.right (And.right (And.right (And.right (And.right (And.right (And.right (And.right (And.right (by assumption))))))))))))))))) | (with_reducible exact And.left (And.right (And.right (And.right (And.right (And.right (And.right (And.right (And.right (And.right (And.right (And.right (And.right (And.right (And.right (And.right (And.right (by assumption)))))))))))))))))) | (with_reducible exact And.left (And.right (And.right (And.right (And.right (And.right (And.right (And.right (And.right (And.right (And.right (And.right (And.right (And.right (And.right (And.right (And.right (And.right (by assumption))))))))))))))))))) | (with_reducible exact And.left (And.right (And.right (And.right (And.right (And.right (And.right (And.right (And.right (And.right (And.right (And.right (And.right (And.right (And.right (And.right (And.right (And.right (And.right (by assumption)))))))))))))))))))) | (with_reducible exact And.left (And.right (And.right (And.right (And.right (And.right (And.right (And.right (And.right (And.right (And.right (And.right (And.right (And.right (And.right (And.right (And.right (And.right (And.right (And.right (by assumption))))))))))))))))))))) | (with_reducible exact And.left (And.right (And.right (And.right (And.right (And.right (And.right (And.right (And.right (And.right (And.right (And.right (And.right (And.right (And.right (And.right (And.right (And.right (And.right (And.right (And.right (by assumption)))))))))))))))))))))) | (with_reducible exact And.left (And.right (And.right (And.right (And.right (And.right (And.right (And.right (And.right (And.right (And.right (And.right (And.right (And.right (And.right (And.right (And.right (And.right (And.right (And.right (And.right (And.right (by assumption))))))))))))))))))))))) | (with_reducible exact And.left (And.right (And.right (And.right (And.right (And.right (And.right (And.right (And.right (And.right (And.right (And.right (And.right (And.right (And.right (And.right (And.right (And.right (And.right (And.right (And.right (And.right (And.right (by assumption)))))))))))))))))))))))) | (with_reducible exact And.left (And.right (And.right (And.right (And.right (And.right (And.right (And.right (And.right (And.right (And.right (And.right (And.right (And.right (And.right (And.right (And.right (And.right (And.right (And.right (And.right (And.right (And.right (And.right (by assumption))))))))))))))))))))))))) | (with_reducible exact And.right (by assumption)) | (with_reducible exact And.right (And.right (by assumption))) | (with_reducible exact And.right (And.right (And.right (by assumption)))) | (with_reducible exact And.right (And.right (And.right (And.right (by assumption))))) | (with_reducible exact And.right (And.right (And.right (And.right (And.right (by assumption)))))) | (with_reducible exact And.right (And.right (And.right (And.right (And.right (And.right (by assumption))))))) | (with_reducible exact And.right (And.right (And.right (And.right (And.right (And.right (And.right (by assumption)))))))) | (with_reducible exact And.right (And.right (And.right (And.right (And.right (And.right (And.right (And.right (by assumption))))))))) | (with_reducible exact And.right (And.right (And.right (And.right (And.right (And.right (And.right (And.right (And.right (by assumption)))))))))) | (with_reducible exact And.right (And.right (And.right (And.right (And.right (And.right (And.right (And.right (And.right (And.right (by assumption))))))))))) | (with_reducible exact And.right (And.right (And.right (And.right (And.right (And.right (And.right (And.right (And.right (And.right (And.right (by assumption)))))))))))) | (with_reducible exact And.right (And.right (And.right (And.right (And.right (And.right (And.right (And.right (And.right (And.right (And.right (And.right (by assumption))))))))))))) | (with_reducible exact And.right (And.right (And.right (And.right (And.right (And.right (And.right (And.right (And.right (And.right (And.right (And.right (And.right (by assumption)))))))))))))) | (with_reducible exact And.right (And.right (And.right (And.right (And.right (And.right (And.right (And.right (And.right (And.right (And.right (And.right (And.right (And.right (by assumption))))))))))))))) | (with_reducible exact And.right (And.right (And.right (And.right (And.right (And.right (And.right (And.right (And.right (And.right (And.right (And.right (And.right (And.right (And.right (by assumption)))))))))))))))) | (with_reducible exact And.right (And.right (And.right (And.right (And.right (And.right (And.right (And.right (And.right (And.right (And.right (And.right (And.right (And.right (And.right (And.right (by assumption))))))))))))))))) | (with_reducible exact And.right (And.right (And.right (And.right (And.right (And.right (And.right (And.right (And.right (And.right (And.right (And.right (And.right (And.right (And.right (And.right (And.right (by assumption)))))))))))))))))) | (with_reducible exact And.right (And.right (And.right (And.right (And.right (And.right (And.right (And.right (And.right (And.right (And.right (And.right (And.right (And.right (And.right (And.right (And.right (And.right (by assumption))))))))))))))))))) | (with_reducible exact And.right (And.right (And.right (And.right (And.right (And.right (And.right (And.right (And.right (And.right (And.right (And.right (And.right (And.right (And.right (And.right (And.right (And.right (And.right (by assumption)))))))))))))))))))) | (with_reducible exact And.right (And.right (And.right (And.right (And.right (And.right (And.right (And.right (And.right (And.right (And.right (And.right (And.right (And.right (And.right (And.right (And.right (And.right (And.right (And.right (by assumption))))))))))))))))))))) | (with_reducible exact And.right (And.right (And.right (And.right (And.right (And.right (And.right (And.right (And.right (And.right (And.right (And.right (And.right (And.right (And.right (And.right (And.right (And.right (And.right (And.right (And.right (by assumption)))))))))))))))))))))) | (with_reducible exact And.right (And.right (And.right (And.right (And.right (And.right (And.right (And.right (And.right (And.right (And.right (And.right (And.right (And.right (And.right (And.right (And.right (And.right (And.right (And.right (And.right (And.right (by assumption))))))))))))))))))))))) | (with_reducible exact And.right (And.right (And.right (And.right (And.right (And.right (And.right (And.right (And.right (And.right (And.right (And.right (And.right (And.right (And.right (And.right (And.right (And.right (And.right (And.right (And.right (And.right (And.right (by assumption)))))))))))))))))))))))))
  k_with "TL ne0" => (refine neN ?_; (try dsimp only); first | (with_reducible assumption) | (refine Ne.symm ?_; with_reducible assumption) | (with_reducible exact And.left (by assumption)) | (with_reducible exact And.left (And.right (by assumption))) | (with_reducible exact And.left (And.right (And.right (by assumption)))) | (with_reducible exact And.left (And.right (And.right (And.right (by assumption))))) | (with_reducible exact And.left (And.right (And.right (And.right (And.right (by assumption)))))) | (with_reducible exact And.left (And.right (And.right (And.right (And.right (And.right (by assumption))))))) | (with_reducible exact Ne.symm <| And.left (by assumption)) | (with_reducible exact Ne.symm <| And.left (And.right (by assumption))) | (with_reducible exact Ne.symm <| And.left (And.right (And.right (by assumption)))) | (with_reducible exact Ne.symm <| And.left (And.right (And.right (And.right (by assumption))))) | (with_reducible exact Ne.symm <| And.left (And.right (And.right (And.right (And.right (by assumption)))))) | (with_reducible exact Ne.symm <| And.left (And.right (And.right (And.right (And.right (And.right (by assumption))))))) | (refine ne_gt ?_; k_extra "TL lt0") | (refine ne_lt ?_; k_extra "TL lt0"))
  k_with "TL le" => (first | (with_reducible assumption) | (with_reducible exact Nat.le_refl _) | (with_reducible exact Nat.succ_le_of_lt (by assumption)) | (with_reducible exact Nat.le_of_lt (by assumption)) | (with_reducible refine le_ss ?_; k_extra "TL le") | ((fail_if_success (with_reducible refine le_ss ?_)); with_reducible refine le_s ?_; k_extra "TL le") | ((fail_if_success (with_reducible refine le_s ?_)); refine le_t ?_ (by with_reducible assumption); k_extra "TL le") | ((fail_if_success (with_reducible refine le_s ?_)); refine le_t ?_ (Nat.le_of_lt (by with_reducible assumption)); k_extra "TL le"))
  k_with "TL mem" => (first | assumption | exact .tail _ (by assumption) | exact .tail _ (.tail _ (by assumption)) | exact .tail _ (.tail _ (.tail _ (by assumption))) | exact .tail _ (.tail _ (.tail _ (.tail _ (by assumption)))) | exact .tail _ (.tail _ (.tail _ (.tail _ (.tail _ (by assumption))))) | exact .tail _ (.tail _ (.tail _ (.tail _ (.tail _ (.tail _ (by assumption)))))))
  k_with "TL all" => (first | assumption | exact ne_of_all_lt (by assumption) | exact off1_all (by ((first | assumption | exact And.right (by assumption) | exact And.right (And.right (by assumption)) | exact And.right (And.right (And.right (by assumption))) | exact And.right (And.right (And.right (And.right (by assumption)))) | exact And.right (And.right (And.right (And.right (And.right (by assumption))))) | exact And.right (And.right (And.right (And.right (And.right (And.right (by assumption)))))) | exact And.right (And.right (And.right (And.right (And.right (And.right (And.right (by assumption)))))))))) | exact ne_of_allLt (by ((first | assumption | exact And.right (by assumption) | exact And.right (And.right (by assumption)) | exact And.right (And.right (And.right (by assumption))) | exact And.right (And.right (And.right (And.right (by assumption)))) | exact And.right (And.right (And.right (And.right (And.right (by assumption))))) | exact And.right (And.right (And.right (And.right (And.right (And.right (by assumption)))))) | exact And.right (And.right (And.right (And.right (And.right (And.right (And.right (by assumption)))))))))))
  k_with "TL@ call ref" => (k_extra "TL call")
  k_with "TL@ subscriptTail Name Constant ref int" => (k_extra "TL t3")
  k_with "TL@ storeName ref" => (k_extra "TL store")
  k_with "TL@ eval ListComp" => (k_extra "TL comp")
  k_with "TL@ exec Assign cons ListComp" => (k_extra "TL asg")
  k_with "TL@ CompSrc" => (k_extra "TL src")
  k_with "TL@ CompSrcT" => (k_extra "TL srcT")
  k_with "TL@ CompEnd" => (k_extra "TL end")
  k_with "TL@ compareOp NotEq ref ref" => (k_extra "TL ne")
  k_with "TL@ call builtin:max" => (k_extra "TL max")
  intro B F X N T d2 d1 hret
  obtain ⟨dL, NL, TL', vsL, zL, tzL, sbL, k1L, k2L, k3L, k4L, k5L, tnL, ttL, tbL, g1, g2, g3, g4, g5⟩ := id hLD
  obtain ⟨dM, NM, TM', vsM, zM, tzM, sbM, k1M, k2M, k3M, k4M, k5M, tnM, ttM, tbM, e1, e2, e3, e4, e5⟩ := id hMO
  have F0 : Fr h₀ L s.heap (ovr mm [(Str.ofString "kinds", .ref K), (Str.ofString "lead", .ref LD), (Str.ofString "more", .ref MO), (Str.ofString "seen", .ref SE), (Str.ofString "due", .ref WD), (Str.ofString "light", .bool light), (Str.ofString "a", .int av ta)]) := by
    rw [ovr_eq (by intro p hp; simp only [List.mem_cons, List.not_mem_nil, or_false] at hp; rcases hp with rfl | rfl | rfl | rfl | rfl | rfl | rfl <;> assumption)]
    exact F
  have hsame : ovr mm [(Str.ofString "kinds", .ref K), (Str.ofString "lead", .ref LD), (Str.ofString "more", .ref MO), (Str.ofString "seen", .ref SE), (Str.ofString "due", .ref WD), (Str.ofString "light", .bool light), (Str.ofString "a", .int av ta)] = mm := ovr_eq (by intro p hp; simp only [List.mem_cons, List.not_mem_nil, or_false] at hp; rcases hp with rfl | rfl | rfl | rfl | rfl | rfl | rfl <;> assumption)
  clear F
  dsimp only [ovr] at F0 hsame
  dsimp only [lawTurn, forBody, lawScope, fnScope, lawBody, lawStmt, Challenge.pw_tl0040_01, fnBody, List.getLastD, List.getLast?, List.getLast, List.drop, List.getD, List.getElem?_cons_succ, List.getElem?_cons_zero, Option.getD]
  k_with "TL asg" => (k_here; (with_reducible show wpAny _ _ (exec (Stmt.Assign [Expr.Name _ _] (Expr.ListComp _ [⟨_, _, [_], _⟩] _ _) _) _) _ _ _); k_dflt (refine LCt.Assign_ListComp_T (F₀ := by k_asm) (by rfl) (by with_unfolding_all rfl) (by with_unfolding_all rfl) (by decide) (by rfl) (by decide) (by rfl) (by rfl) (by rfl) ?_))
  k_with "TL asg" => (k_here; (with_reducible show wpAny _ _ (exec (Stmt.Assign [Expr.Name _ _] (Expr.ListComp _ [⟨_, _, [], _⟩] _ _) _) _) _ _ _); k_dflt (refine LCg.Assign_ListComp_U (F₀ := by k_asm) (by rfl) (by with_unfolding_all rfl) (by with_unfolding_all rfl) (by decide) (by rfl) (by decide) (by rfl) (by rfl) (by rfl) ?_))
  k_with "TL src" => (k_here; k_dflt (refine LCg.CompSrc.range (n := (maxI M 1 + 1).toNat) (by rfl) (by k_asm) (by k_asm) (by assumption) (mx_range hM2).1 (mx_range hM2).2.1 (by have := (mx_range hM2).2.2; rw [sizeLine_eq]; omega) ?_; intro g'; refine comp_dat (fun i => rowD (1 + (i : Int), colOf (hereF sh light) (1 + (i : Int)), colOf (thereF ns light) (1 + (i : Int)) + 1)) (fun i v I oI C oC D₂ m₂ ys nw h tk E' hin hP hC hx F' N' off' hb ne' => ?_) (fun _ _ => trivial) (fun ys nw hyl hb hd => ?_); obtain ⟨t', rfl⟩ := hP; (have hin3 : i < 3 := Nat.lt_of_lt_of_le hin (mx_range hM2).2.2); (have rTD := hb _ (.head _)); (have rHD := hb _ (.tail _ (.head _))); (have r2 := hb _ (.tail _ (.tail _ (.head _)))); (have r1 := hb _ (.tail _ (.tail _ (.tail _ (.head _))))); rotate_left; (have c2m := hb _ (.tail _ (.tail _ (.head _)))); (have c1m := hb _ (.tail _ (.tail _ (.tail _ (.head _))))); (have hnbm : ∀ p ∈ nb, p ∈ nw := fun p hp => hb p (.tail _ (.tail _ (.tail _ (.tail _ hp))))); (have sg1 := hb _ (.tail _ (.tail _ (.tail _ (.tail _ g1))))); (have sg2 := hb _ (.tail _ (.tail _ (.tail _ (.tail _ g2))))); (have se1 := hb _ (.tail _ (.tail _ (.tail _ (.tail _ e1))))); (have se2 := hb _ (.tail _ (.tail _ (.tail _ (.tail _ e2))))); (have hLD' := IsWs.mono (news' := nw) hLD (fun p hp => hb p (.tail _ (.tail _ (.tail _ (.tail _ hp)))))); (have hMO' := IsWs.mono (news' := nw) hMO (fun p hp => hb p (.tail _ (.tail _ (.tail _ (.tail _ hp)))))); (have hdR : DatAll nw ys ((rowsP sh ns light (maxI M 1 + 1).toNat).map rowD) := by unfold rowsP; rw [List.map_map]; exact hd); rotate_left))
  k_with "TL max" => (k_here; k_dflt ((try dsimp only [List.nil_append, List.cons_append]); refine' kso_max ?xF ?xN ?xl hI ?xn ?xh ?_; (case xF => k_asm); (case xN => k_asm); (case xl => exact News.isList (by k_asm) (by k_mem)); (case xn => rw [hw]; decide); (case xh => exact rfl)); intro h' M tM tkM F' N' hMm hMx; (have hM2 := hns M hMm))
  k_with "TL store" => (k_dflt (refine' storeX_C ?F ?N ?c ?U ?d ?_ ?a ?b; (case a => rfl); (case b => rfl); (case F => k_asm); (case N => k_asm); (case c => rfl); (case U => k_updF); (case d => k_asm); k_whole; intro h' o' F' N' d'; (try dsimp only at N'); (try k_sweep)))
  k_with "TL t3" => (k_here; k_dflt (first
    | ((with_reducible show wpAny _ _ (subscriptTail _ _ (Value.ref _) (Value.int 0 _)) _ _ _); refine' item_t0 ?tN ?tm ?_ ?ts; (case tN => k_asm); (case tm => k_mem); (case ts => with_unfolding_all rfl))
    | ((with_reducible show wpAny _ _ (subscriptTail _ _ (Value.ref _) (Value.int 1 _)) _ _ _); refine' item_t1 ?tN ?tm ?_ ?ts; (case tN => k_asm); (case tm => k_mem); (case ts => with_unfolding_all rfl))
    | ((with_reducible show wpAny _ _ (subscriptTail _ _ (Value.ref _) (Value.int 2 _)) _ _ _); refine' item_t2 ?tN ?tm ?_ ?ts; (case tN => k_asm); (case tm => k_mem); (case ts => with_unfolding_all rfl))))
  k_with "TL call" => (k_dflt ((try dsimp only [List.nil_append, List.cons_append, List.append_nil]); refine' use_column ?u1 ?u2 ?u3 ?u4 ?u5 ?u6 ?um0 ?um1 ?um2 ?u7 ?u8 ?_; (case u1 => k_asm); (case u2 => k_asm); (case u3 => k_asm); (case u4 => k_asm); (case u5 => k_asm); (case u6 => first | exact rfl | assumption); (case um0 => k_mem); (case um1 => omega); (case um2 => omega); (case u7 => first | ktr_room | decide); (case u8 => first | ktr_units | decide); k_whole); intro tq3 h3 tk3 F3 N3; (try dsimp only); (try k_sweep))
  k_with "TL end" => (k_here; k_dflt (first
    | (refine comp_end (by k_asm) (by k_asm) (fun _ h => h) (by assumption) (.inr ⟨_, .head _, rfl, _, rfl⟩) ⟨rfl, ?_⟩; show (r.2.1 != r.2.2) = true; first | assumption | exact bne_iff_ne.mpr (by assumption))
    | (refine comp_end (by k_asm) (by k_asm) (fun _ h => h) (by assumption) (.inr ⟨_, .head _, rfl, _, rfl⟩) ?_; show (r.2.1 != r.2.2) = false; first | assumption | (rw [bne_eq_false_iff_eq]; assumption) | (rw [bne_eq_false_iff_eq]; exact Decidable.not_not.mp (by assumption)))))
  k_with "TL end" => (k_here; k_dflt (refine comp_endD (by k_asm) (by k_asm) (by kcf_all) (by assumption) (by omega) (by omega) (by omega) (.tuple (vs := [.int _ _, .int _ _, .int _ _]) (.head _) (.cons (.int _ _) (.cons (.int _ _) (.cons (.int _ _) .nil))))))
  k_with "TL srcT" => (k_here; k_dflt (refine LCt.CompSrcT.ledger (by rfl) (by k_asm) (by k_asm) (.head _) (by have := hdR.length; (try unfold rowsP at this); (try simp only [List.length_map, List.length_range] at this); rw [List.size_toArray, this, sizeLine_eq]; have := (mx_range hM2).2.2; omega) ?_; intro g'; refine comp_tell (fun r => r.2.1 != r.2.2) (DatAll.mono (fun p hp => .tail _ hp) hdR) (fun i r a t1 t2 t3 k I oI C oC D₂ m₂ ys₂ h tk E' hr hrm hC hx F' N' off' ne' => ?_) (fun ys₂ hd₂ => ?_); rotate_left; (have hdT : DatAll ((_ : Addr × Obj) :: nw) ys₂ ((toldP sh ns light (maxI M 1 + 1).toNat).map rowD) := hd₂); rotate_left))
  k_with "TL call" => (k_dflt ((try dsimp only [List.nil_append, List.cons_append, List.append_nil]); refine' use_wit (x := MO) ?u1 ?u2 ?u3 ?u4 ?u5 ?u6 ?um0 ?um1 ?um2 ?um3 ?um4 ?u7 ?u8 ?_; (case u1 => k_asm); (case u2 => k_asm); (case u3 => k_asm); (case u4 => k_asm); (case u5 => k_asm); (case u6 => first | exact rfl | assumption); (case um0 => exact hMO2.mono (by kcf_all)); (case um1 => exact hLD2.mono (by kcf_all)); (case um2 => exact Nat.lt_of_le_of_lt (hrows (by assumption)).2.2.2.1 (by decide)); (case um3 => exact Nat.lt_of_le_of_lt (hrows (by assumption)).2.2.1 (by decide)); (case um4 => exact (hrows (by assumption)).2.2.2.2.2.1); (case u7 => first | ktr_room | decide); (case u8 => first | ktr_units | decide); k_whole); intro VA vws vj vrest h3 tk3 F3 N3 hsubV hdV oVA; (try dsimp only); (have w1b := hsubV _ (List.mem_cons_of_mem _ w1)); (have w0b := hsubV _ (List.mem_cons_self ..)); (have hdT3 := DatAll.mono (fun p hp => hsubV p (List.mem_cons_of_mem _ hp)) hdT2); (try simp only [LCg.Off1] at oVA); (try k_sweep))
  k_with "TL call" => (k_dflt ((try dsimp only [List.nil_append, List.cons_append, List.append_nil]); refine' use_wit (x := LD) ?u1 ?u2 ?u3 ?u4 ?u5 ?u6 ?um0 ?um1 ?um2 ?um3 ?um4 ?u7 ?u8 ?_; (case u1 => k_asm); (case u2 => k_asm); (case u3 => k_asm); (case u4 => k_asm); (case u5 => k_asm); (case u6 => first | exact rfl | assumption); (case um0 => exact hLD'.mono (by kcf_all)); (case um1 => exact hMO'.mono (by kcf_all)); (case um2 => exact Nat.lt_of_le_of_lt (hrows (by assumption)).2.2.1 (by decide)); (case um3 => exact Nat.lt_of_le_of_lt (hrows (by assumption)).2.2.2.1 (by decide)); (case um4 => exact (hrows (by assumption)).2.2.2.2.1); (case u7 => first | ktr_room | decide); (case u8 => first | ktr_units | decide); k_whole); intro WA wws wj wrest h3 tk3 F3 N3 hsubW hdW oWA; (try dsimp only); (have hLD2 := IsWs.mono (news' := wrest) hLD' (fun p hp => hsubW p (List.mem_cons_of_mem _ (List.mem_cons_of_mem _ hp)))); (have hMO2 := IsWs.mono (news' := wrest) hMO' (fun p hp => hsubW p (List.mem_cons_of_mem _ (List.mem_cons_of_mem _ hp)))); (have w1 := hsubW _ (List.mem_cons_self ..)); (have w2 := hsubW _ (List.mem_cons_of_mem _ (List.mem_cons_self ..))); (have sg1' := hsubW _ (List.mem_cons_of_mem _ (List.mem_cons_of_mem _ sg1))); (have sg2' := hsubW _ (List.mem_cons_of_mem _ (List.mem_cons_of_mem _ sg2))); (have se1' := hsubW _ (List.mem_cons_of_mem _ (List.mem_cons_of_mem _ se1))); (have se2' := hsubW _ (List.mem_cons_of_mem _ (List.mem_cons_of_mem _ se2))); (have hdT2 := DatAll.mono (fun p hp => hsubW p (List.mem_cons_of_mem _ hp)) hdT); (have hrw := hrows (by assumption)); (unfold RowsOk at hrw); (have hrow := hrw.2.2.2.2.2.2 M hMm hMx); (try simp only [LCg.Off1] at oWA); (try k_sweep))
  k_with "TL ne" => (k_here; k_dflt (refine' ne_rows ?nN ?nA ?nB ?na ?nb hrow.2 ?nu ?_; (case nN => k_asm); (case nA => k_mem); (case nB => exact .head _); (case na => exact DatAll.mono (fun p hp => List.mem_cons_of_mem _ (hb3 p (List.mem_cons_of_mem _ hp))) hdV); (case nb => exact DatAll.mono (fun p hp => List.mem_cons_of_mem _ hp) hdS); (case nu => exact (by decide +kernel : 4 + 3 + 64 < cLine))))
  k_with "TL ne" => (k_here; k_dflt (refine' ne_rows ?nN ?nA ?nB ?na ?nb hrow.1 ?nu ?_; (case nN => k_asm); (case nA => exact .head _); (case nB => k_mem); (case na => exact DatAll.mono (by kcf_all) hdW); (case nb => exact DatAll.mono (by kcf_all) hdT2); (case nu => exact (by decide +kernel : 4 + 3 + 64 < cLine))))
  k_with "TL comp" => (k_here; k_dflt (refine LCg.ListComp_U (F₀ := by k_asm) (by with_unfolding_all rfl) (by decide) (by rfl) (by decide) (by rfl) ?_))
  k_with "TL src" => ((have hq9 := hdT3); clear hq9; k_here; k_dflt (refine LCg.CompSrc.ledger (by rfl) (by k_asm) (by k_asm) (List.mem_cons_of_mem _ w1b) (by have q1 := hdT3.length; have q2 := told_le sh ns light (maxI M 1 + 1).toNat; have q3 := (mx_range hM2).2.2; rw [List.length_map] at q1; rw [List.size_toArray, q1, sizeLine_eq]; omega) ?_; intro g'; refine comp_dat (fun i => rowD (swapP ((toldP sh ns light (maxI M 1 + 1).toNat).getD i (0, 0, 0)))) (fun i v I oI C oC D₂ m₂ ys₃ nw3 h tk E' hin hP hC hx F' N' off' hb ne' => ?_) (fun nw hb => .inr ⟨_, hb _ (List.mem_cons_of_mem _ w1b), rfl, _, rfl⟩) (fun ys₃ nw3 hyl hb3 hd3 => ?_); obtain ⟨r, ra, q1, q2, q3, kq, hr, rfl, hrm⟩ := row_at (DatAll.mono (fun p hp => hb p (List.mem_cons_of_mem _ hp)) hdT3) (by simpa using hP); (have hg : (toldP sh ns light (maxI M 1 + 1).toNat).getD i (0, 0, 0) = r := by rw [List.getD_eq_getElem?_getD, hr]; rfl); rotate_left; (have hdS : DatAll nw3 ys₃ (((toldP sh ns light (maxI M 1 + 1).toNat).map swapP).map rowD) := by rw [← swap_map, ← List.length_map rowD, ← hdT3.length, ← List.size_toArray]; exact hd3); (have v0 := hb3 _ (List.mem_cons_self ..)); rotate_left))
  k_with "TL end" => (k_here; k_dflt (refine comp_endD (by k_asm) (by k_asm) (by kcf_all) (by assumption) (by omega) (by omega) (by omega) ?_; show DatIn _ _ (rowD (swapP (List.getD _ i _))); rw [hg]; exact .tuple (vs := [.int _ _, .int _ _, .int _ _]) (.head _) (.cons (.int _ _) (.cons (.int _ _) (.cons (.int _ _) .nil)))))
  k_with "TL call" => (k_dflt ((try dsimp only [List.nil_append, List.cons_append, List.append_nil]); refine' use_counts ?u1 ?u2 ?u3 ?u4 ?u5 ?u6 ?um0 ?u7 ?u8 ?_; (case u1 => k_asm); (case u2 => k_asm); (case u3 => k_asm); (case u4 => k_asm); (case u5 => k_asm); (case u6 => first | exact rfl | assumption); (case um0 => exact (hrows (by assumption)).2.1); (case u7 => first | ktr_room | decide); (case u8 => first | ktr_units | decide); k_whole); intro TD p0 p1 p2 h3 tk3 F3 N3 oTD; (try dsimp only); (try simp only [LCg.Off1] at oTD); (try k_sweep))
  k_with "TL call" => (k_dflt ((try dsimp only [List.nil_append, List.cons_append, List.append_nil]); refine' use_counts ?u1 ?u2 ?u3 ?u4 ?u5 ?u6 ?um0 ?u7 ?u8 ?_; (case u1 => k_asm); (case u2 => k_asm); (case u3 => k_asm); (case u4 => k_asm); (case u5 => k_asm); (case u6 => first | exact rfl | assumption); (case um0 => exact (hrows (by assumption)).1); (case u7 => first | ktr_room | decide); (case u8 => first | ktr_units | decide); k_whole); intro HD q0 q1 q2 h3 tk3 F3 N3 oHD; (try dsimp only); (try simp only [LCg.Off1] at oHD); (try k_sweep))
  w_strict (k_steps; all_goals first
    | ((rename News _ _ _ _ => N9); (have up : ∀ p ∈ nw, p ∈ nw3 := fun p h => hb3 p (List.mem_cons_of_mem _ (hsubV p (List.mem_cons_of_mem _ (hsubW p (List.mem_cons_of_mem _ (List.mem_cons_of_mem _ h))))))); (refine' hret _ _ _ _ _ _ _ ?zm ?zF (news_three (news_sub N9 (fun p hp => List.mem_cons_of_mem _ hp)) (up _ c2m) (up _ c1m) (fun p hp => up p (hnbm p hp))) ?z2 ?z1; (case zF => assumption); (case zm => (intro y q1 q2; simp only [q1, q2, if_false]; exact congrFun hsame y)); (case z2 => assumption); (case z1 => assumption)))
    | exact hret o1 o2 v1 v2 _ _ _ (fun y _ _ => congrFun hsame y) (by assumption) (by assumption) d2 d1)
end TL
end

section
open PySem PySem.W PySem.Spec PySem.Calls PyProof.Rows
set_option linter.unusedVariables false
set_option maxRecDepth 100000
set_option maxHeartbeats 8000000
namespace TL
theorem push_list {ws : List Value} {x : Value} {wa : Array Value} (h : Array.push (List.toArray ws) x = wa) : ∃ ws2 : List Value, wa = List.toArray ws2 ∧ ws2.length ≤ ws.length + 1 ∧ ws2 ≠ [] := ⟨ws ++ [x], by rw [← h]; simp, by simp, by simp⟩
theorem law_turn (w : World) (mean : ExcName → Option Value) (mg mb : Str → Option Value) (h₀ : Heap) (L : Addr) (fa : Addr) (ccd : Value) (mm : Str → Option Value) (s : Shared) (Q : Flow → Shared → Prop) (E : Value → Shared → Prop)
    (ns sh : List Int) (av bv : Int) (light al : Bool) (K HF MO TA WH W0 W1 WD FA : Addr) (kv ws : List Value) (jk jf jw : Nat) (ta tb u1 u2 u3 : Tok) (vH vM vT : WsV) (nb : List (Addr × Obj)) (o1 o2 : Obj) (v1 v2 : Option Value)
    (ha0 : 0 ≤ av) (hb0 : 0 ≤ bv) (hsh : sh = shOf ns av bv) (hlight : ((av + bv).fmod 2 == 1) = light) (hal : alikeF sh ns light = al)
    (hlen : sh.length ≤ 8) (hk3 : ∀ k ∈ sh, 0 ≤ k ∧ k ≤ 2) (hpre : huePre sh light = true) (hnl : ns.length = 8) (hwsl : ws.length < 2 ^ 11)
    (hcx : ∀ x y : UInt64, x = y → (x = (hueOf sh light).1 ∨ x = (hueOf sh light).2.1) → (Float64.cmp x y == some .eq) = true)
    (hc2 : eqFb (hueOf sh light).1 (hueOf ns light).1 = true → eqFb (hueOf sh light).2.1 (hueOf ns light).2.1 = true → eqFb (Float64.mul (Float64.ofInt 2) (hueOf sh light).2.2) (hueOf ns light).2.2 = true)
    (heH : wsEq (wsRun (leadCodes sh 0)) vH = al) (heM : wsEq (wsRun (leadCodes sh 0)) vM = false) (heT : wsEq (wsRun (leadCodes sh 0)) vT = false) (hnsk : ∀ x ∈ ns, 0 ≤ x ∧ x ≤ 2) (hrows : av = 0 → RowsOk sh ns light (wsRun (leadCodes sh 0)) vM)
    (hI : IntsAre kv ns) (hK : (K, W.listOf kv.toArray jk) ∈ nb) (hHF : IsWs w.params nb HF vH) (hMO : IsWs w.params nb MO vM) (hTA : IsWs w.params nb TA vT)
    (hWH : (WH, W.listOf #[.ref W0, .ref W1] jw) ∈ nb) (hWD : (if light = true then W1 else W0) = WD) (hwd : (WD, tup3 (hueOf ns light) u1 u2 u3) ∈ nb)
    (hu1 : @LT.lt Nat _ u1 s.toks) (hu2 : @LT.lt Nat _ u2 s.toks) (hu1z : u1 ≠ 0) (hu2z : u2 ≠ 0) (hu3z : u3 ≠ 0)
    (f1 : @Ne Nat FA (L + 1 + 1)) (f2 : @Ne Nat FA (L + 1)) (f3 : ∀ p ∈ nb, p.1 ≠ FA) (f4 : ∀ p ∈ nb, p.1 ≠ L + 1 + 1) (f5 : ∀ p ∈ nb, p.1 ≠ L + 1)
    (mK : mm (Str.ofString "kinds") = some (.ref K)) (mHF : mm (Str.ofString "half") = some (.ref HF)) (mMO : mm (Str.ofString "more") = some (.ref MO)) (mTA : mm (Str.ofString "taller") = some (.ref TA)) (mWH : mm (Str.ofString "whole") = some (.ref WH)) (mFA : mm (Str.ofString "fair") = some (.ref FA)) (ma : mm (Str.ofString "a") = some (.int av ta)) (mbv : mm (Str.ofString "b") = some (.int bv tb)) :
    ∀ (B : Below callerA h₀ [] h₀) (F : Fr h₀ L s.heap mm) (X : (hd.heap_39 w.params).In h₀) (N : News h₀ L s.heap ((FA, W.listOf (List.toArray ws) jf) :: (L + 1 + 1, o2) :: (L + 1, o1) :: nb))
    (T : Top hd.view_39 (looseW hd.view_39 [Str.ofString "Whitespace", Str.ofString "ONE_THIRD", Str.ofString "ONE_SIXTH", Str.ofString "TWO_THIRD"]) mean mg mb h₀)
    (d2 : o2.data = .cell v2) (d1 : o1.data = .cell v1)
    (hret : ∀ (ws' : List Value) (jf' : Nat) (o1' o2' : Obj) (v1' v2' : Option Value) (m' : Str → Option Value) (h' : Heap) (tk' : Nat), (∀ y, y ≠ Str.ofString "share" → y ≠ Str.ofString "lead" → y ≠ Str.ofString "light" → y ≠ Str.ofString "due" → y ≠ Str.ofString "seen" → y ≠ Str.ofString "alike" → y ≠ Str.ofString "rows" → y ≠ Str.ofString "told" → m' y = mm y) →
      Fr h₀ L h' m' → News h₀ L h' ((FA, W.listOf (List.toArray ws') jf') :: (L + 1 + 1, o2') :: (L + 1, o1') :: nb) → o2'.data = .cell v2' → o1'.data = .cell v1' → ws'.length ≤ ws.length + 1 → (ws ≠ [] → ws' ≠ []) → (al = true → ws' ≠ []) → Q .next { s with heap := h', toks := tk' }),
    wpAny (model Challenge.rw_tl0040_01.row.prog w) (callerA.deeper (envOfC (Str.ofString "law") lawScope L fa ccd)) (execs lawTurn (envOfC (Str.ofString "law") lawScope L fa ccd)) Q E s := by
  k_fill
  w_top on
  w_on
  k_with_none
  k_with "TL lt0" => (first | (with_reducible assumption) | (refine lt_t ?_ (by with_reducible assumption); k_extra "TL lt0") | (with_reducible exact And.left (by assumption)) | (with_reducible exact And.left (And.right (by assumption))) | (with_reducible exact And.left (And.right (And.right (by assumption)))) | (with_reducible exact And.left (And.right (And.right (And.right (by assumption))))) | (with_reducible exact And.left (And.right (And.right (And.right (And.right (by assumption)))))) | (with_reducible exact And.left (And.right (And.right (And.right (And.right (And.right (by assumption))))))) | (with_reducible exact And.left (And.right (And.right (And.right (And.right (And.right (And.right (by assumption)))))))) | (with_reducible exact And.left (And.right (And.right (And.right (And.right (And.right (And.right (And.right (by assumption))))))))) | (with_reducible exact And.left (And.right (And.right (And.right (And.right (And.right (And.right (And.right (And.right (by assumption)))))))))) | (with_reducible exact And.left (And.right (And.right (And.right (And.right (And.right (And.right (And.right (And.right (And.right (by assumption))))))))))) | (with_reducible exact And.left (And.right (And.right (And.right (And.right (And.right (And.right (And.right (And.right (And.right (And.right (by assumption)))))))))))) | (with_reducible exact And.left (And.right (And.right (And.right (And.right (And.right (And.right (And.right (And.right (And.right (And.right (And.right (by assumption))))))))))))) | (with_reducible exact And.left (And.right (And.right (And.right (And.right (And.right (And.right (And.right (And.right (And.right (And.right (And.right (And.right (by assumption)))))))))))))) | (with_reducible exact And.left (And.right (And.right (And.right (And.right (And.right (And.right (And.right (And.right (And.right (And.right (And.right (And.right (And.right (by assumption))))))))))))))) | (with_reducible exact And.left (And.right (And.right (And.right (And.right (And.right (And.right (And.right (And.right (And.right (And.right (And.right (And.right (And.right (And.right (by assumption)))))))))))))))) | (with_reducible exact And.left (And.right (And.right (And.right (And.right (And.right (And.right (And.right (And.right (And.right (And.right (And.right (And.right (And.right (And.right (And.right (by assumption))))))))))))))))) | (with_reducible exact And.left (And.right (And.right (And.right (And.right (And.right (And.right (And.right (And.right (And.right (And.right (And.right (And.right (And.right (And.right (And.right (And.right (by assumption)))))))))))))))))) | (with_reducible exact And.left (And.right (And.right (And.right (And.right (And.right (And.right (And.right (And.right (And.right (And.right (And.right (And.right (And.right (And.right (And.right (And.right (And.right (by assumption))))))))))))))))))) | (with_reducible exact And.left (And.right (And.right (And.right (And.right (And.right (And.right (And.right (And.right (And.right (And.right (And.right (And.right (And.right (And.right (And.right (And.right (And.right (And.right (by assumption)))))))))))))))))))) | (with_reducible exact And.left (And.right (And.right (And.right (And.right (And.right (And.right (And.right (And.right (And.right (And.right (And.right (And.right (And.right (And.right (And.right (And.right (And.right (And.right (And.right (by assumption))))))))))))))))))))) | (with_reducible exact And.left (And.right (And.right (And.right (And.right (And.right (And.right (And.right (And.right (And.right (And.right (And.right (And.right (And.right (And.right (And.right (And.right (And.right (And.right (And.right (And.right (by assumption)))))))))))))))))))))) | (with_reducible exact And.left (And.right (And.right (And.right (And.right (And.right (And.right (And.right (And.right (And.right (And.right (And.right (And.right (And.right (And.right (And.right (And.right (And.right (And.right (And.right (And.right (And.right (by assumption))))))))))))))))))))))) | (with_reducible exact And.left (And.right (And.right (And.right (And.right (And.right (And.right (And.right (And.right (And.right (And.right (And.right (And.right (And.right (And.right (And.right (And.right (And.right (And.right (And.right (And.right (And.right (And.right (by assumption)))))))))))))))))))))))) | (with_reducible exact And.left (And.right (And.right (And.right (And.right (And.right (And.right (And.right (And.right (And.right (And.right (And.right (And.right (And.right (And.right (And.right (And.right (And.right (And.right (And.right (And.right (And.right (And.right (And.right (by assumption))))))))))))))))))))))))) | (with_reducible exact And.right (by assumption)) | (with_reducible exact And.right (And.right (by assumption))) | (with_reducible exact And.right (And.right (And.right (by assumption)))) | (with_reducible exact And.right (And.right (And.right (And.right (by assumption))))) | (with_reducible exact And.right (And.right (And.right (And.right (And.right (by assumption)))))) | (with_reducible exact And.right (And.right (And.right (And.right (And.right (And.right (by assumption))))))) | (with_reducible exact And.right (And.right (And.right (And.right (And.right (And.right (And.right (by assumption)))))))) | (with_reducible exact And.right (And.right (And.right (And.right (And.right (And.right (And.right (And.right (by assumption))))))))) | (with_reducible exact And.right (And.right (And.right (And.right (And.right (And.right (And.right (And.right (And.right (by assumption)))))))))) | (with_reducible exact And.right (And.right (And.right (And.right (And.right (And.right (And.right (And.right (And.right (And.right (by assumption))))))))))) | (with_reducible exact And.right (And.right (And.right (And.right (And.right (And.right (And.right (And.right (And.right (And.right (And.right (by assumption)))))))))))) | (with_reducible exact And.right (And.right (And.right (And.right (And.right (And.right (And.right (And.right (And.right (And.right (And.right (And.right (by assumption))))))))))))) | (with_reducible exact And.right (And.right (And.right (And.right (And.right (And.right (And.right (And.right (And.right (And.right (And.right (And.right (And.right (by assumption)))))))))))))) | (with_reducible exact And.right (And.right (And.right (And.right (And.right (And.right (And.right (And.right (And.right (And.right (And.right (And.right (And.right (And.right (by assumption))))))))))))))) | (with_reducible exact And.right (And.right (And.right (And.right (And.right (And.right (And.right (And.right (And.right (And.right (And.right (And.right (And.right (And.right (And.right (by assumption)))))))))))))))) | (with_reducible exact And.right (And.right (And.right (And.right (And.right (And.right (And.right (And.right (And.right (And.right (And.right (And.right (And.right (And.right (And.right (And.right (by assumption))))))))))))))))) | (with_reducible exact And.right (And.right (And.right (And.right (And.right (And.right (And.right (And.right (And.right (And.right (And.right (And.right (And.right (And.right (And.right (And.right (And.right (by assumption)))))))))))))))))) | (with_reducible exact And.right (And.right (And.right (And.right (And.right (And.right (And.right (And.right (And.right (And.right (And.right (And.right (And.right (And.right (And.right (And.right (And.right (And.right (by assumption))))))))))))))))))) | (with_reducible exact And.right (And.right (And.right (And.right (And.right (And.right (And.right (And.right (And.right (And.right (And.right (And.right (And.right (And.right (And.right (And.right (And.right (And.right (And.right (by assumption)))))))))))))))))))) | (with_reducible exact And.right (And.right (And.right (And.right (And.right (And.right (And.right (And.right (And.right (And.right (And.right (And.right (And.right (And.right (And.right (And.right (And.right (And.right (And.right (And.right (by assumption))))))))))))))))))))) | (with_reducible exact And.right (And.right (And.right (And.right (And.right (And.right (And.right (And.right (And.right (And.right (And.right (And.right (And.right (And.right (And.right (And.right (And.right (And.right (And.right (And.right (And.right (by assumption)))))))))))))))))))))) | (with_reducible exact And.right (And.right (And.right (And.right (And.right (And.right (And.right (And.right (And.right (And.right (And.right (And.right (And.right (And.right (And.right (And.right (And.right (And.right (And.right (And.right (And.right (And.right (by assumption))))))))))))))))))))))) | (with_reducible exact And.right (And.right (And.right (And.right (And.right (And.right (And.right (And.right (And.right (And.right (And.right (And.right (And.right (And.right (And.right (And.right (And.right (And.right (And.right (And.right (And.right (And.right (And.right (by assumption)))))))))))))))))))))))))
  k_with "TL ne0" => (refine neN ?_; (try dsimp only); first | (with_reducible assumption) | (refine Ne.symm ?_; with_reducible assumption) | (with_reducible exact And.left (by assumption)) | (with_reducible exact And.left (And.right (by assumption))) | (with_reducible exact And.left (And.right (And.right (by assumption)))) | (with_reducible exact And.left (And.right (And.right (And.right (by assumption))))) | (with_reducible exact And.left (And.right (And.right (And.right (And.right (by assumption)))))) | (with_reducible exact And.left (And.right (And.right (And.right (And.right (And.right (by assumption))))))) | (with_reducible exact Ne.symm <| And.left (by assumption)) | (with_reducible exact Ne.symm <| And.left (And.right (by assumption))) | (with_reducible exact Ne.symm <| And.left (And.right (And.right (by assumption)))) | (with_reducible exact Ne.symm <| And.left (And.right (And.right (And.right (by assumption))))) | (with_reducible exact Ne.symm <| And.left (And.right (And.right (And.right (And.right (by assumption)))))) | (with_reducible exact Ne.symm <| And.left (And.right (And.right (And.right (And.right (And.right (by assumption))))))) | (refine ne_gt ?_; k_extra "TL lt0") | (refine ne_lt ?_; k_extra "TL lt0"))
  k_with "TL le" => (first | (with_reducible assumption) | (with_reducible exact Nat.le_refl _) | (with_reducible exact Nat.succ_le_of_lt (by assumption)) | (with_reducible exact Nat.le_of_lt (by assumption)) | (with_reducible refine le_ss ?_; k_extra "TL le") | ((fail_if_success (with_reducible refine le_ss ?_)); with_reducible refine le_s ?_; k_extra "TL le") | ((fail_if_success (with_reducible refine le_s ?_)); refine le_t ?_ (by with_reducible assumption); k_extra "TL le") | ((fail_if_success (with_reducible refine le_s ?_)); refine le_t ?_ (Nat.le_of_lt (by with_reducible assumption)); k_extra "TL le"))
  k_with "TL mem" => (first | assumption | exact .tail _ (by assumption) | exact .tail _ (.tail _ (by assumption)) | exact .tail _ (.tail _ (.tail _ (by assumption))) | exact .tail _ (.tail _ (.tail _ (.tail _ (by assumption)))) | exact .tail _ (.tail _ (.tail _ (.tail _ (.tail _ (by assumption))))) | exact .tail _ (.tail _ (.tail _ (.tail _ (.tail _ (.tail _ (by assumption)))))))
  k_with "TL@ execs cons" => ((k_here; (with_reducible refine gen_add ?_); intro tkq9 htkq9; (try dsimp only at htkq9); (try dsimp only)))
  k_with "TL@ execs nil" => ((k_here; (with_reducible refine gen_add ?_); intro tkq9 htkq9; (try dsimp only at htkq9); (try dsimp only)))
  k_with "TL@ call ref" => (k_extra "TL call")
  k_with "TL@ subscriptTail Name Slice ref ref" => (k_extra "TL slice")
  k_with "TL@ compareOp Eq int int" => (k_extra "TL cmp")
  k_with "TL@ compareOp Eq ref ref" => (k_extra "TL eq")
  k_with "TL@ subscriptTail Name Call ref int" => (k_extra "TL item")
  k_with "TL@ subscriptTail Name Constant ref int" => (k_extra "TL t3")
  k_with "TL@ call builtin:list.append nil" => (k_extra "TL app")
  k_with "TL all" => (first | assumption | exact ne_of_all_lt (by assumption) | exact off1_all (by ((first | assumption | exact And.right (by assumption) | exact And.right (And.right (by assumption)) | exact And.right (And.right (And.right (by assumption))) | exact And.right (And.right (And.right (And.right (by assumption)))) | exact And.right (And.right (And.right (And.right (And.right (by assumption))))) | exact And.right (And.right (And.right (And.right (And.right (And.right (by assumption)))))) | exact And.right (And.right (And.right (And.right (And.right (And.right (And.right (by assumption)))))))))) | exact ne_of_allLt (by ((first | assumption | exact And.right (by assumption) | exact And.right (And.right (by assumption)) | exact And.right (And.right (And.right (by assumption))) | exact And.right (And.right (And.right (And.right (by assumption)))) | exact And.right (And.right (And.right (And.right (And.right (by assumption))))) | exact And.right (And.right (And.right (And.right (And.right (And.right (by assumption)))))) | exact And.right (And.right (And.right (And.right (And.right (And.right (And.right (by assumption)))))))))))
  k_with "TL@ execs cons If nil" => (k_extra "TL if0")
  k_with "TL@ exec If Compare cons nil" => (k_extra "TL ifX")
  intro B F X N T d2 d1 hret
  have F0 : Fr h₀ L s.heap (ovr mm [(Str.ofString "kinds", .ref K), (Str.ofString "half", .ref HF), (Str.ofString "more", .ref MO), (Str.ofString "taller", .ref TA), (Str.ofString "whole", .ref WH), (Str.ofString "fair", .ref FA), (Str.ofString "a", .int av ta), (Str.ofString "b", .int bv tb)]) := by
    rw [ovr_eq (by intro p hp; simp only [List.mem_cons, List.not_mem_nil, or_false] at hp; rcases hp with rfl | rfl | rfl | rfl | rfl | rfl | rfl | rfl <;> assumption)]
    exact F
  have hsame : ovr mm [(Str.ofString "kinds", .ref K), (Str.ofString "half", .ref HF), (Str.ofString "more", .ref MO), (Str.ofString "taller", .ref TA), (Str.ofString "whole", .ref WH), (Str.ofString "fair", .ref FA), (Str.ofString "a", .int av ta), (Str.ofString "b", .int bv tb)] = mm := ovr_eq (by intro p hp; simp only [List.mem_cons, List.not_mem_nil, or_false] at hp; rcases hp with rfl | rfl | rfl | rfl | rfl | rfl | rfl | rfl <;> assumption)
  clear F
  dsimp only [ovr] at F0 hsame
  dsimp only [lawTurn, forBody, lawScope, fnScope, lawBody, lawStmt, Challenge.pw_tl0040_01, fnBody, List.getLastD, List.getLast?, List.getLast, List.drop, List.getD, List.getElem?_cons_succ, List.getElem?_cons_zero, Option.getD]
  k_with "TL size" => (simp only [sizeLine_eq]; (try simp only [List.length_take, List.length_drop]); exact size_two (by assumption))
  k_with "TL slice" => (k_here; k_dflt (refine' kmk_slice_ints ?slF ?slN ?sll ?slp ?slq ?sli ?slm ?slc ?_ ?sls ?slt ?slz; (case slF => k_asm); (case slN => k_asm); (case sll => kmk_list); (case slp => kmk_part); (case slq => kmk_part); (case sli => exact hI); (case slm => first | exact kmk_upto hI ha0 | exact kmk_run hI (by omega) (by omega)); (case slc => exact rfl); (case sls => with_unfolding_all rfl); (case slt => kmk_pure); (case slz => (rw [List.size_toArray, hI.length, hnl, sizeLine_eq]; decide))); intro D' ws' h' F' N' l1 hI' hC' hL'; (try k_lt l1); (try k_sweep))
  k_with "TL t3" => (k_here; k_dflt (first
    | ((with_reducible show wpAny _ _ (subscriptTail _ _ (Value.ref _) (Value.int 0 _)) _ _ _); refine' item_t0 ?tN ?tm ?_ ?ts; (case tN => k_asm); (case tm => k_mem); (case ts => with_unfolding_all rfl))
    | ((with_reducible show wpAny _ _ (subscriptTail _ _ (Value.ref _) (Value.int 1 _)) _ _ _); refine' item_t1 ?tN ?tm ?_ ?ts; (case tN => k_asm); (case tm => k_mem); (case ts => with_unfolding_all rfl))
    | ((with_reducible show wpAny _ _ (subscriptTail _ _ (Value.ref _) (Value.int 2 _)) _ _ _); refine' item_t2 ?tN ?tm ?_ ?ts; (case tN => k_asm); (case tm => k_mem); (case ts => with_unfolding_all rfl))))
  k_with "TL cmp" => (k_dflt (refine' cmp_bool hlight ?_))
  k_with "TL item" => (k_dflt (refine' item_whole ?itN ?itm ?_ ?its; (case itN => k_asm); (case itm => k_mem); (case its => with_unfolding_all rfl)); rw [hWD])
  k_with "TL call" => (refine toks_up ?_; k_dflt ((try dsimp only [List.nil_append, List.cons_append, List.append_nil]); refine' use_lead ?u1 ?u2 ?u3 ?u4 ?u5 ?u6 ?um0 ?um1 ?um2 ?um3 ?um4 ?u7 ?u8 ?_; (case u1 => k_asm); (case u2 => k_asm); (case u3 => k_asm); (case u4 => k_asm); (case u5 => k_asm); (case u6 => first | exact rfl | assumption); (case um0 => k_mem); (case um1 => exact (show IntsAre _ sh from by rw [hsh]; unfold shOf; assumption)); (case um2 => exact hlen); (case um3 => exact hk3); (case um4 => decide); (case u7 => first | ktr_room | decide); (case u8 => first | ktr_units | decide); k_whole); intro tq x d Nq Tq vq sb k1 k2 k3 k4 k5 tn tt tbq h3 tk3 F3 N3 hI3 l1 l2 l3 l4 hle3; (try dsimp only); (try dsimp only at hle3); (try k_lt l1); (try k_sweep))
  k_with "TL call" => (k_dflt ((try dsimp only [List.nil_append, List.cons_append, List.append_nil]); refine' use_seen ?u1 ?u2 ?u3 ?u4 ?u5 ?u6 ?um0 ?um1 ?um2 ?um3 ?u7 ?u8 ?_; (case u1 => k_asm); (case u2 => k_asm); (case u3 => k_asm); (case u4 => k_asm); (case u5 => k_asm); (case u6 => first | exact rfl | assumption); (case um0 => k_mem); (case um1 => exact (show IntsAre _ sh from by rw [hsh]; unfold shOf; assumption)); (case um2 => exact hlen); (case um3 => exact hpre); (case u7 => first | ktr_room | decide); (case u8 => first | ktr_units | decide); k_whole); intro SE t1 t2 t3 h3 tk3 F3 N3 l1 hT3; (try dsimp only); (try dsimp only at hT3); (try k_lt l1); (try k_sweep))
  k_with "TL call" => (k_dflt ((try dsimp only [List.nil_append, List.cons_append, List.append_nil]); refine' use_equalR ?u1 ?u2 ?u3 ?u4 ?u5 ?u6 ?um0 ?um1 ?um2 ?u7 ?u8 ?_; (case u1 => k_asm); (case u2 => k_asm); (case u3 => k_asm); (case u4 => k_asm); (case u5 => k_asm); (case u6 => first | exact rfl | assumption); (case um0 => exact ⟨d, Nq, Tq, vq, _, _, sb, k1, k2, k3, k4, k5, tn, tt, tbq, by k_mem, by k_mem, by k_mem, by k_mem, hI3⟩); (case um1 => exact hTA.mono (by kcf_all)); (case um2 => exact heT); (case u7 => first | ktr_room | decide); (case u8 => first | ktr_units | decide); k_whole); intro tq2 h3 tk3 F3 N3; (try dsimp only); (try k_sweep))
  k_with "TL call" => (k_dflt ((try dsimp only [List.nil_append, List.cons_append, List.append_nil]); refine' use_equalR ?u1 ?u2 ?u3 ?u4 ?u5 ?u6 ?um0 ?um1 ?um2 ?u7 ?u8 ?_; (case u1 => k_asm); (case u2 => k_asm); (case u3 => k_asm); (case u4 => k_asm); (case u5 => k_asm); (case u6 => first | exact rfl | assumption); (case um0 => exact ⟨d, Nq, Tq, vq, _, _, sb, k1, k2, k3, k4, k5, tn, tt, tbq, by k_mem, by k_mem, by k_mem, by k_mem, hI3⟩); (case um1 => exact hMO.mono (by kcf_all)); (case um2 => exact heM); (case u7 => first | ktr_room | decide); (case u8 => first | ktr_units | decide); k_whole); intro tq2 h3 tk3 F3 N3; (try dsimp only); (try k_sweep))
  k_with "TL call" => (k_dflt ((try dsimp only [List.nil_append, List.cons_append, List.append_nil]); refine' use_equalR ?u1 ?u2 ?u3 ?u4 ?u5 ?u6 ?um0 ?um1 ?um2 ?u7 ?u8 ?_; (case u1 => k_asm); (case u2 => k_asm); (case u3 => k_asm); (case u4 => k_asm); (case u5 => k_asm); (case u6 => first | exact rfl | assumption); (case um0 => exact ⟨d, Nq, Tq, vq, _, _, sb, k1, k2, k3, k4, k5, tn, tt, tbq, by k_mem, by k_mem, by k_mem, by k_mem, hI3⟩); (case um1 => exact hHF.mono (by kcf_all)); (case um2 => exact heH); (case u7 => first | ktr_room | decide); (case u8 => first | ktr_units | decide); k_whole); intro tq2 h3 tk3 F3 N3; (try dsimp only); (try k_sweep))
  k_with "TL eq" => (k_here; k_dflt (refine' eq_tup3 ?eqX ?eqF ?eqN ?eql ?eqb ?equ ?z0 ?z1 ?z2 hu1z hu2z hu3z ?d0 ?d1 ?x0 ?x1 hc2 hal ?_; (case eqX => exact X); (case eqF => k_asm); (case eqN => k_asm); (case eql => k_mem); (case eqb => k_mem); (case equ => exact (by decide +kernel : 4 + 3 < cLine)); (case z0 => exact hT3.2.2.2.2.1); (case z1 => exact hT3.2.2.2.2.2.1); (case z2 => exact Nat.succ_ne_zero _); (case d0 => ((have q1 := hT3.1); exact Nat.ne_of_gt (show @LT.lt Nat _ u1 t1 by first | (refine lt_le ?_; k_extra "TL le") | omega))); (case d1 => ((have q1 := hT3.2.2.1); exact Nat.ne_of_gt (show @LT.lt Nat _ u2 t2 by first | (refine lt_le ?_; k_extra "TL le") | omega))); (case x0 => exact fun e => hcx _ _ e (.inl rfl)); (case x1 => exact fun e => hcx _ _ e (.inr rfl))))
  k_with "TL app" => (k_here; k_dflt ((try dsimp only [List.nil_append, List.cons_append]); refine' append_my ?apF ?apN ?apU (Nat.le_refl _) ?api ?_; (case apF => k_asm); (case apN => k_asm); (case apU => k_upd); (case api => omega)); intro h' F' N'; generalize hws2 : Array.push (List.toArray ws) _ = wa at N'; obtain ⟨ws2, rfl, hl2, hne2⟩ := push_list hws2)
  k_with "TL if0" => (k_dflt (refine' law_turn2 w mean mg mb h₀ L fa ccd _ _ Q _ ns sh av light K x MO SE WD kv jk ta t1 t2 t3 u1 u2 u3 (wsRun (leadCodes sh 0)) vM ((FA, W.listOf (List.toArray ws) jf) :: (SE, tup3 (hueOf sh light) t1 t2 t3) :: (x, instObj 83 d) :: (d, dictOf (wsEs w.params (leadTxt sh 0) tq (wsRun (leadCodes sh 0)) Nq sb k1 k2 k3 k4 k5 tn tt) 5) :: (Nq, tupO #[.ref Tq, .int (wsRun (leadCodes sh 0)).b tbq]) :: (Tq, tupO vq.toArray) :: nb) o1 o2 v1 v2 hnl hnsk hrows hI ?fK ?fLD ?fMO ?fse ?fwd ?ff4 ?ff5 ?g1 ?g2 ?g3 ?g4 ?g5 ?g6 ?g7 B ?fF X ?fN T d2 d1 ?fret; (case fK => k_mem); (case fLD => exact ⟨d, Nq, Tq, vq, _, _, sb, k1, k2, k3, k4, k5, tn, tt, tbq, by k_mem, by k_mem, by k_mem, by k_mem, hI3⟩); (case fMO => exact hMO.mono (by kcf_all)); (case fse => k_mem); (case fwd => k_mem); (case fF => k_asm); (case g1 => exact rfl); (case g2 => exact rfl); (case g3 => exact rfl); (case g4 => exact rfl); (case g5 => exact rfl); (case g6 => exact rfl); (case g7 => exact rfl); (case fN => exact news_sub (by k_asm) (by kcf_all)); (case ff4 => (intro p hp; simp only [List.mem_cons] at hp; rcases hp with rfl | rfl | rfl | rfl | rfl | rfl | hp; (exact f1); (show @Ne Nat _ _; k_ne); (show @Ne Nat _ _; k_ne); (show @Ne Nat _ _; k_ne); (show @Ne Nat _ _; k_ne); (show @Ne Nat _ _; k_ne); (exact f4 p hp))); (case ff5 => (intro p hp; simp only [List.mem_cons] at hp; rcases hp with rfl | rfl | rfl | rfl | rfl | rfl | hp; (exact f2); (show @Ne Nat _ _; k_ne); (show @Ne Nat _ _; k_ne); (show @Ne Nat _ _; k_ne); (show @Ne Nat _ _; k_ne); (show @Ne Nat _ _; k_ne); (exact f5 p hp))); (case fret => (intro o1' o2' v1' v2' m' h' tk' hm' F' N' e2 e1; refine' hret ws jf o1' o2' v1' v2' m' h' tk' ?fm F' (news_sub N' (by kcf_all)) e2 e1 (Nat.le_succ _) id ?fal; (case fm => (intro y q1 q2 q3 q4 q5 q6 q7 q8; rw [hm' y q7 q8]; simp only [q1, q2, q3, q4, q5, q6, if_false]; exact congrFun hsame y)); (case fal => (intro q; first | exact absurd q (by assumption) | (rw [(by assumption : al = false)] at q; exact absurd q Bool.false_ne_true)))))))
  k_with "TL if0" => (k_dflt (refine' law_turn2 w mean mg mb h₀ L fa ccd _ _ Q _ ns sh av light K x MO SE WD kv jk ta t1 t2 t3 u1 u2 u3 (wsRun (leadCodes sh 0)) vM ((FA, W.listOf (List.toArray ws2) (jf + 1)) :: (SE, tup3 (hueOf sh light) t1 t2 t3) :: (x, instObj 83 d) :: (d, dictOf (wsEs w.params (leadTxt sh 0) tq (wsRun (leadCodes sh 0)) Nq sb k1 k2 k3 k4 k5 tn tt) 5) :: (Nq, tupO #[.ref Tq, .int (wsRun (leadCodes sh 0)).b tbq]) :: (Tq, tupO vq.toArray) :: nb) o1 o2 v1 v2 hnl hnsk hrows hI ?fK ?fLD ?fMO ?fse ?fwd ?ff4 ?ff5 ?g1 ?g2 ?g3 ?g4 ?g5 ?g6 ?g7 B ?fF X ?fN T d2 d1 ?fret; (case fK => k_mem); (case fLD => exact ⟨d, Nq, Tq, vq, _, _, sb, k1, k2, k3, k4, k5, tn, tt, tbq, by k_mem, by k_mem, by k_mem, by k_mem, hI3⟩); (case fMO => exact hMO.mono (by kcf_all)); (case fse => k_mem); (case fwd => k_mem); (case fF => k_asm); (case g1 => exact rfl); (case g2 => exact rfl); (case g3 => exact rfl); (case g4 => exact rfl); (case g5 => exact rfl); (case g6 => exact rfl); (case g7 => exact rfl); (case fN => exact news_sub (by k_asm) (by kcf_all)); (case ff4 => (intro p hp; simp only [List.mem_cons] at hp; rcases hp with rfl | rfl | rfl | rfl | rfl | rfl | hp; (exact f1); (show @Ne Nat _ _; k_ne); (show @Ne Nat _ _; k_ne); (show @Ne Nat _ _; k_ne); (show @Ne Nat _ _; k_ne); (show @Ne Nat _ _; k_ne); (exact f4 p hp))); (case ff5 => (intro p hp; simp only [List.mem_cons] at hp; rcases hp with rfl | rfl | rfl | rfl | rfl | rfl | hp; (exact f2); (show @Ne Nat _ _; k_ne); (show @Ne Nat _ _; k_ne); (show @Ne Nat _ _; k_ne); (show @Ne Nat _ _; k_ne); (show @Ne Nat _ _; k_ne); (exact f5 p hp))); (case fret => (intro o1' o2' v1' v2' m' h' tk' hm' F' N' e2 e1; refine' hret ws2 (jf + 1) o1' o2' v1' v2' m' h' tk' ?fm F' (news_sub N' (by kcf_all)) e2 e1 hl2 (fun _ => hne2) (fun _ => hne2); (case fm => (intro y q1 q2 q3 q4 q5 q6 q7 q8; rw [hm' y q7 q8]; simp only [q1, q2, q3, q4, q5, q6, if_false]; exact congrFun hsame y))))))
  w_strict (k_steps; all_goals first
    | (exfalso; (have q := (by assumption : (al != al) = true)); rw [bne_self_eq_false] at q; exact absurd q Bool.false_ne_true))
end TL
end

section
open PySem PySem.W PySem.Spec PySem.Calls PyProof.Rows
set_option linter.unusedVariables false
set_option maxRecDepth 100000
set_option maxHeartbeats 8000000
namespace TL
theorem For_TF {prog : Program} {w : World} {A : Around} {s : Shared} {env : Env} {h₀ : Heap} {x : Str} {body : List Stmt} {m : Str → Option Value} {E : Value → Shared → Prop} {Q : Flow → Shared → Prop} {px pos : Pos} {iter : PySem.Expr} (_F : Fr h₀ env.locals s.heap m) (hx : env.kindOf x = some .local)
    (hp : (env.scope.kind == .class || (env.scope.kind == .module && env.locals != env.globals)) = false)
    (h : wpAny (model prog w) A (eval iter env) (fun xv s₁ => RangeT prog w A h₀ env x body Q E s.toks xv s₁) E s)
    (hs : ∀ x, foldedSetIterable iter env x = pure x := by intro _; rfl)
    (hE : PassesOwn (model prog w) A env E := by passes_own) :
    wpAny (model prog w) A (exec (.For (.Name x px) iter body [] pos) env) Q E s := For_T h₀ hx hp h hs hE
def lightOf (a b : Int) : Bool := (a + b).fmod 2 == 1
/-- the plain law of one share -/
structure TurnOk (ns : List Int) (a b : Int) (light : Bool) : Prop where
  len : (shOf ns a b).length ≤ 8
  k3 : ∀ k ∈ shOf ns a b, 0 ≤ k ∧ k ≤ 2
  pre : huePre (shOf ns a b) light = true
  cx : ∀ x y : UInt64, x = y → (x = (hueOf (shOf ns a b) light).1 ∨ x = (hueOf (shOf ns a b) light).2.1) → (Float64.cmp x y == some .eq) = true
  c2 : eqFb (hueOf (shOf ns a b) light).1 (hueOf ns light).1 = true → eqFb (hueOf (shOf ns a b) light).2.1 (hueOf ns light).2.1 = true → eqFb (Float64.mul (Float64.ofInt 2) (hueOf (shOf ns a b) light).2.2) (hueOf ns light).2.2 = true
  eH : wsEq (wsRun (leadCodes (shOf ns a b) 0)) (wsRun (leadCodes (halfOf ns) 0)) = alikeF (shOf ns a b) ns light
  eM : wsEq (wsRun (leadCodes (shOf ns a b) 0)) (wsRun (leadCodes (halfOf ns) 1)) = false
  eT : wsEq (wsRun (leadCodes (shOf ns a b) 0)) (wsRun (leadCodes (0 :: halfOf ns) 0)) = false
  rows : a = 0 → RowsOk (shOf ns a b) ns light (wsRun (leadCodes (shOf ns a b) 0)) (wsRun (leadCodes (halfOf ns) 1))
/-- a share of a, b is fair -/
def fairP (ns : List Int) (a b : Int) : Bool := alikeF (shOf ns a b) ns (lightOf a b)
/-- all that the loops know and leave as it is -/
structure Lw (P : Params) (ns : List Int) (kv : List Value) (jk jw : Nat) (u1 u2 u3 y1 y2 y3 : Tok) (K HF MO TA WH W0 W1 : Addr) (nb : List (Addr × Obj)) (mm : Str → Option Value) (FA : Addr) : Prop where
  hI : IntsAre kv ns
  hK : (K, W.listOf kv.toArray jk) ∈ nb
  hHF : IsWs P nb HF (wsRun (leadCodes (halfOf ns) 0))
  hMO : IsWs P nb MO (wsRun (leadCodes (halfOf ns) 1))
  hTA : IsWs P nb TA (wsRun (leadCodes (0 :: halfOf ns) 0))
  hWH : (WH, W.listOf #[.ref W0, .ref W1] jw) ∈ nb
  h0 : (W0, tup3 (hueOf ns false) u1 u2 u3) ∈ nb
  h1 : (W1, tup3 (hueOf ns true) y1 y2 y3) ∈ nb
  z : u1 ≠ 0 ∧ u2 ≠ 0 ∧ u3 ≠ 0 ∧ y1 ≠ 0 ∧ y2 ≠ 0 ∧ y3 ≠ 0
  mK : mm (Str.ofString "kinds") = some (.ref K)
  mHF : mm (Str.ofString "half") = some (.ref HF)
  mMO : mm (Str.ofString "more") = some (.ref MO)
  mTA : mm (Str.ofString "taller") = some (.ref TA)
  mWH : mm (Str.ofString "whole") = some (.ref WH)
  mFA : mm (Str.ofString "fair") = some (.ref FA)
/-- the names that a turn stores -/
def Own (y : Str) : Prop := y = Str.ofString "share" ∨ y = Str.ofString "lead" ∨ y = Str.ofString "light" ∨ y = Str.ofString "due" ∨ y = Str.ofString "seen" ∨ y = Str.ofString "alike" ∨ y = Str.ofString "rows" ∨ y = Str.ofString "told"
theorem Lw.mono {P : Params} {ns : List Int} {kv : List Value} {jk jw : Nat} {u1 u2 u3 y1 y2 y3 : Tok} {K HF MO TA WH W0 W1 FA : Addr} {nb nb' : List (Addr × Obj)} {mm mm' : Str → Option Value} (h : Lw P ns kv jk jw u1 u2 u3 y1 y2 y3 K HF MO TA WH W0 W1 nb mm FA) (hs : ∀ p ∈ nb, p ∈ nb')
    (hm : ∀ y, y ≠ Str.ofString "a" → y ≠ Str.ofString "b" → ¬ Own y → mm' y = mm y) : Lw P ns kv jk jw u1 u2 u3 y1 y2 y3 K HF MO TA WH W0 W1 nb' mm' FA := by
  have no : ∀ x y : Str, x ≠ y → x ≠ y := fun _ _ h => h
  refine ⟨h.hI, hs _ h.hK, h.hHF.mono hs, h.hMO.mono hs, h.hTA.mono hs, hs _ h.hWH, hs _ h.h0, hs _ h.h1, h.z, ?_, ?_, ?_, ?_, ?_, ?_⟩
  · rw [hm _ (by decide) (by decide) (by unfold Own; decide)]; exact h.mK
  · rw [hm _ (by decide) (by decide) (by unfold Own; decide)]; exact h.mHF
  · rw [hm _ (by decide) (by decide) (by unfold Own; decide)]; exact h.mMO
  · rw [hm _ (by decide) (by decide) (by unfold Own; decide)]; exact h.mTA
  · rw [hm _ (by decide) (by decide) (by unfold Own; decide)]; exact h.mWH
  · rw [hm _ (by decide) (by decide) (by unfold Own; decide)]; exact h.mFA
/-- what a loop keeps -/
def lwJ (FA L : Addr) (nb : List (Addr × Obj)) (mm : Str → Option Value) (x : Str) (c : Nat) (P : Nat → Prop) (n : Nat) (i : Nat) (m₁ : Str → Option Value) (nw : List (Addr × Obj)) : Prop :=
  ∃ (ws : List Value) (jf : Nat) (o1 o2 : Obj) (v1 v2 : Option Value), nw = (FA, W.listOf (List.toArray ws) jf) :: (L + 1 + 1, o2) :: (L + 1, o1) :: nb ∧ o2.data = .cell v2 ∧ o1.data = .cell v1 ∧ ws.length ≤ n + c * i ∧ (P i → ws ≠ []) ∧ ∀ y, y ≠ x → y ≠ Str.ofString "b" → ¬ Own y → m₁ y = mm y
theorem rangeT_intro {prog : Program} {w : World} {A : Around} {h₀ : Heap} {env : Env} {x : Str} {body : List Stmt} {Q : Flow → Shared → Prop} {E : Value → Shared → Prop} {s₁ : Shared} {r : Addr} {a b : Int} {t u v : Tok} {m₀ : Str → Option Value} {news : List (Addr × Obj)} {n₀ : Nat} (J : Nat → (Str → Option Value) → List (Addr × Obj) → Prop)
    (hh : A.handled = none) (hr : IsRange s₁.heap r a b 1 t u v) (hsm : Builtin.Range.small a b 1 = true) (F : Fr h₀ env.locals s₁.heap m₀) (N : News h₀ env.locals s₁.heap news) (hj : J 0 m₀ news)
    (turn : ∀ i tk' m₁ news₁ h tk I oI, i < (b - a).toNat → n₀ ≤ tk → J i m₁ news₁ → (∀ p ∈ news₁, p.1 ≠ I) → Fr h₀ env.locals h (fun y => if y = x then some (.int (a + (i : Int)) tk') else m₁ y) → News h₀ env.locals h ((I, oI) :: news₁) →
      wpAny (model prog w) A (execs body env) (TurnT h₀ env.locals I oI (J (i + 1)) { s₁ with heap := h, toks := tk }) E { s₁ with heap := h, toks := tk })
    (done : ∀ m₁ news₁ h tk, n₀ ≤ tk → J (b - a).toNat m₁ news₁ → Fr h₀ env.locals h m₁ → News h₀ env.locals h news₁ → Q .next { s₁ with heap := h, toks := tk }) :
    RangeT prog w A h₀ env x body Q E n₀ (.ref r) s₁ := ⟨r, a, b, t, u, v, m₀, news, J, rfl, hh, hr, hsm, F, N, hj, turn, done⟩
theorem range_small {a b : Int} (h0 : 0 ≤ a) (h1 : a ≤ 1) (h2 : b = 5 ∨ b = 4) : Builtin.Range.small a b 1 = true := by
  obtain rfl | rfl : a = 0 ∨ a = 1 := by omega
  all_goals rcases h2 with rfl | rfl
  all_goals decide
/-- a turn of the inner loop -/
theorem law_inner (w : World) (mean : ExcName → Option Value) (mg mb : Str → Option Value) (h₀ : Heap) (L : Addr) (fa : Addr) (ccd : Value) (s : Shared) (E : Value → Shared → Prop) (ns : List Int) (kv : List Value) (jk jw : Nat) (u1 u2 u3 y1 y2 y3 ta tb : Tok) (K HF MO TA WH W0 W1 FA I : Addr) (oI : Obj) (nb : List (Addr × Obj)) (mm m₁ : Str → Option Value) (nw : List (Addr × Obj)) (av lo : Int) (j n : Nat) (h : Heap) (tk : Nat) (R : Prop)
    (hw : Word ns) (ha0 : 0 ≤ av) (ha3 : av ≤ 3) (hlo : 0 ≤ lo) (hj4 : lo + (j : Int) ≤ 4) (hn : n < 1000) (hok : TurnOk ns av (lo + (j : Int)) (lightOf av (lo + (j : Int))))
    (hL : Lw w.params ns kv jk jw u1 u2 u3 y1 y2 y3 K HF MO TA WH W0 W1 nb mm FA) (ma : mm (Str.ofString "a") = some (.int av ta))
    (ht : @LT.lt Nat _ u1 tk ∧ @LT.lt Nat _ u2 tk ∧ @LT.lt Nat _ y1 tk ∧ @LT.lt Nat _ y2 tk)
    (f1 : @Ne Nat FA (L + 1 + 1)) (f2 : @Ne Nat FA (L + 1)) (f3 : ∀ p ∈ nb, p.1 ≠ FA) (f4 : ∀ p ∈ nb, p.1 ≠ L + 1 + 1) (f5 : ∀ p ∈ nb, p.1 ≠ L + 1)
    (hJ : lwJ FA L nb mm (Str.ofString "b") 1 (fun j => R ∨ ∃ b, lo ≤ b ∧ b < lo + (j : Int) ∧ fairP ns av b = true) n j m₁ nw) (hnI : ∀ p ∈ nw, p.1 ≠ I)
    (B : Below callerA h₀ [] h₀) (F : Fr h₀ L h (fun y => if y = Str.ofString "b" then some (.int (lo + (j : Int)) tb) else m₁ y)) (X : (hd.heap_39 w.params).In h₀) (N : News h₀ L h ((I, oI) :: nw)) (T : Top hd.view_39 (looseW hd.view_39 [Str.ofString "Whitespace", Str.ofString "ONE_THIRD", Str.ofString "ONE_SIXTH", Str.ofString "TWO_THIRD"]) mean mg mb h₀) :
    wpAny (model Challenge.rw_tl0040_01.row.prog w) (callerA.deeper (envOfC (Str.ofString "law") lawScope L fa ccd)) (execs lawTurn (envOfC (Str.ofString "law") lawScope L fa ccd)) (TurnT h₀ L I oI (lwJ FA L nb mm (Str.ofString "b") 1 (fun j => R ∨ ∃ b, lo ≤ b ∧ b < lo + (j : Int) ∧ fairP ns av b = true) n (j + 1)) { s with heap := h, toks := tk }) E { s with heap := h, toks := tk } := by
  obtain ⟨ws, jf, o1, o2, v1, v2, rfl, d2, d1, hwl, hP, hm⟩ := hJ
  have hL' := hL.mono (nb' := (I, oI) :: nb) (mm' := fun y => if y = Str.ofString "b" then some (.int (lo + (j : Int)) tb) else m₁ y) (fun p hp => .tail _ hp) (fun y e1 e2 e3 => by rw [if_neg e2]; exact hm y e2 e2 e3)
  have key : ∀ (WD : Addr) (q1 q2 q3 : Tok) , (if lightOf av (lo + (j : Int)) = true then W1 else W0) = WD → (WD, tup3 (hueOf ns (lightOf av (lo + (j : Int)))) q1 q2 q3) ∈ (I, oI) :: nb → @LT.lt Nat _ q1 tk → @LT.lt Nat _ q2 tk → q1 ≠ 0 → q2 ≠ 0 → q3 ≠ 0 →
      wpAny (model Challenge.rw_tl0040_01.row.prog w) (callerA.deeper (envOfC (Str.ofString "law") lawScope L fa ccd)) (execs lawTurn (envOfC (Str.ofString "law") lawScope L fa ccd)) (TurnT h₀ L I oI (lwJ FA L nb mm (Str.ofString "b") 1 (fun j => R ∨ ∃ b, lo ≤ b ∧ b < lo + (j : Int) ∧ fairP ns av b = true) n (j + 1)) { s with heap := h, toks := tk }) E { s with heap := h, toks := tk } := by
    intro WD q1 q2 q3 eW mW l1 l2 z1 z2 z3
    refine law_turn w mean mg mb h₀ L fa ccd (fun y => if y = Str.ofString "b" then some (.int (lo + (j : Int)) tb) else m₁ y) { s with heap := h, toks := tk } _ E ns _ av (lo + (j : Int)) _ _ K HF MO TA WH W0 W1 WD FA kv ws jk jf jw ta tb q1 q2 q3 _ _ _ ((I, oI) :: nb) o1 o2 v1 v2 ha0 (by omega) rfl rfl rfl hok.len hok.k3 hok.pre hw.1 (by omega) hok.cx hok.c2 hok.eH hok.eM hok.eT hw.2.1 hok.rows
      hL'.hI hL'.hK hL'.hHF hL'.hMO hL'.hTA hL'.hWH eW mW l1 l2 z1 z2 z3 f1 f2 ?_ ?_ ?_ hL'.mK hL'.mHF hL'.mMO hL'.mTA hL'.mWH hL'.mFA ?_ ?_ B F X ?_ T d2 d1 ?_
    · intro p hp
      rcases List.mem_cons.mp hp with rfl | hp
      · exact Ne.symm (hnI _ (.head _))
      · exact f3 p hp
    · intro p hp
      rcases List.mem_cons.mp hp with rfl | hp
      · exact Ne.symm (hnI (L + 1 + 1, o2) (.tail _ (.head _)))
      · exact f4 p hp
    · intro p hp
      rcases List.mem_cons.mp hp with rfl | hp
      · exact Ne.symm (hnI (L + 1, o1) (.tail _ (.tail _ (.head _))))
      · exact f5 p hp
    · show (if Str.ofString "a" = Str.ofString "b" then _ else m₁ (Str.ofString "a")) = _
      rw [if_neg (by decide), hm _ (by decide) (by decide) (by unfold Own; decide)]
      exact ma
    · show (if Str.ofString "b" = Str.ofString "b" then _ else _) = _
      rw [if_pos rfl]
    · exact news_sub N (by kcf_all)
    · intro ws' jf' o1' o2' v1' v2' m' h' tk' hm' F' N' e2 e1 hl hne hal
      refine ⟨rfl, h', tk', m', (FA, W.listOf (List.toArray ws') jf') :: (L + 1 + 1, o2') :: (L + 1, o1') :: nb, rfl, F', news_sub N' (by kcf_all), ?_, ws', jf', o1', o2', v1', v2', rfl, e2, e1, by omega, ?_, ?_⟩
      · intro p hp
        rcases List.mem_cons.mp hp with rfl | hp
        · exact hnI (FA, W.listOf (List.toArray ws) jf) (.head _)
        rcases List.mem_cons.mp hp with rfl | hp
        · exact hnI (L + 1 + 1, o2) (.tail _ (.head _))
        rcases List.mem_cons.mp hp with rfl | hp
        · exact hnI (L + 1, o1) (.tail _ (.tail _ (.head _)))
        exact hnI p (.tail _ (.tail _ (.tail _ hp)))
      · rintro (hR | ⟨b, hb1, hb2, hb3⟩)
        · exact hne (hP (.inl hR))
        by_cases hb : b = lo + (j : Int)
        · subst hb
          exact hal hb3
        · exact hne (hP (.inr ⟨b, hb1, by omega, hb3⟩))
      · intro y q1 q2 q3
        rw [hm' y (fun e => q3 (.inl e)) (fun e => q3 (.inr (.inl e))) (fun e => q3 (.inr (.inr (.inl e)))) (fun e => q3 (.inr (.inr (.inr (.inl e))))) (fun e => q3 (.inr (.inr (.inr (.inr (.inl e)))))) (fun e => q3 (.inr (.inr (.inr (.inr (.inr (.inl e))))))) (fun e => q3 (.inr (.inr (.inr (.inr (.inr (.inr (.inl e)))))))) (fun e => q3 (.inr (.inr (.inr (.inr (.inr (.inr (.inr e))))))))]
        show (if y = Str.ofString "b" then _ else m₁ y) = _
        rw [if_neg q1]
        exact hm y q1 q2 q3
  obtain ⟨z1, z2, z3, z4, z5, z6⟩ := hL.z
  cases hl : lightOf av (lo + (j : Int)) with
  | true => rw [hl] at key; exact key W1 y1 y2 y3 (if_pos rfl) (.tail _ hL.h1) ht.2.2.1 ht.2.2.2 z4 z5 z6
  | false => rw [hl] at key; exact key W0 u1 u2 u3 (if_neg Bool.false_ne_true) (.tail _ hL.h0) ht.1 ht.2.1 z1 z2 z3
end TL
end

section
open PySem PySem.W PySem.Spec PySem.Calls PyProof.Rows
set_option linter.unusedVariables false
set_option maxRecDepth 100000
set_option maxHeartbeats 8000000
namespace TL
def lawOuter : List Stmt := forBody (lawBody.getD 12 (.Pass ⟨0, 0, 0, 0⟩))
def outP (ns : List Int) (i : Nat) : Prop := ∃ a b, 0 ≤ a ∧ a < (i : Int) ∧ 0 ≤ b ∧ b ≤ 4 ∧ (a = 0 ∨ 1 ≤ b) ∧ fairP ns a b = true
theorem lo_facts {i i2 : Nat} (hi : i < 4) (h : i2 < ((5 : Int) - (if (1 : Int) < 0 + (i : Int) then 1 else 0 + (i : Int))).toNat) : (0 : Int) ≤ (if (1 : Int) < 0 + (i : Int) then 1 else 0 + (i : Int)) ∧ (if (1 : Int) < 0 + (i : Int) then 1 else 0 + (i : Int)) + (i2 : Int) ≤ 4 := by
  split <;> rename_i hh <;> simp only [hh, if_true, if_false] at h <;> omega
/-- a turn of the outer loop -/
theorem law_outer (w : World) (mean : ExcName → Option Value) (mg mb : Str → Option Value) (h₀ : Heap) (L : Addr) (fa : Addr) (ccd : Value) (s : Shared) (E : Value → Shared → Prop) (ns : List Int) (kv : List Value) (jk jw : Nat) (u1 u2 u3 y1 y2 y3 ta : Tok) (K HF MO TA WH W0 W1 FA I : Addr) (oI : Obj) (nb : List (Addr × Obj)) (mm m₁ : Str → Option Value) (nw : List (Addr × Obj)) (i : Nat) (h : Heap) (tk : Nat)
    (hw : Word ns) (hi : i < 4) (hok : ∀ b, 0 ≤ b → b ≤ 4 → TurnOk ns (0 + (i : Int)) b (lightOf (0 + (i : Int)) b))
    (hL : Lw w.params ns kv jk jw u1 u2 u3 y1 y2 y3 K HF MO TA WH W0 W1 nb mm FA)
    (ht : @LT.lt Nat _ u1 tk ∧ @LT.lt Nat _ u2 tk ∧ @LT.lt Nat _ y1 tk ∧ @LT.lt Nat _ y2 tk)
    (f1 : @Ne Nat FA (L + 1 + 1)) (f2 : @Ne Nat FA (L + 1)) (f3 : ∀ p ∈ nb, p.1 ≠ FA) (f4 : ∀ p ∈ nb, p.1 ≠ L + 1 + 1) (f5 : ∀ p ∈ nb, p.1 ≠ L + 1)
    (hJ : lwJ FA L nb mm (Str.ofString "a") 5 (outP ns) 0 i m₁ nw) (hnI : ∀ p ∈ nw, p.1 ≠ I) :
    ∀ (B : Below callerA h₀ [] h₀) (F : Fr h₀ L h (fun y => if y = Str.ofString "a" then some (.int (0 + (i : Int)) ta) else m₁ y)) (X : (hd.heap_39 w.params).In h₀) (N : News h₀ L h ((I, oI) :: nw)) (T : Top hd.view_39 (looseW hd.view_39 [Str.ofString "Whitespace", Str.ofString "ONE_THIRD", Str.ofString "ONE_SIXTH", Str.ofString "TWO_THIRD"]) mean mg mb h₀),
    PassesOwn (model Challenge.rw_tl0040_01.row.prog w) (callerA.deeper (envOfC (Str.ofString "law") lawScope L fa ccd)) (envOfC (Str.ofString "law") lawScope L fa ccd) E →
    wpAny (model Challenge.rw_tl0040_01.row.prog w) (callerA.deeper (envOfC (Str.ofString "law") lawScope L fa ccd)) (execs lawOuter (envOfC (Str.ofString "law") lawScope L fa ccd)) (TurnT h₀ L I oI (lwJ FA L nb mm (Str.ofString "a") 5 (outP ns) 0 (i + 1)) { s with heap := h, toks := tk }) E { s with heap := h, toks := tk } := by
  obtain ⟨ws, jf, o1, o2, v1, v2, rfl, d2, d1, hwl, hP, hm⟩ := hJ
  k_fill
  w_top on
  w_on
  k_with_none
  k_with "TL lt0" => (first | (with_reducible assumption) | (refine lt_t ?_ (by with_reducible assumption); k_extra "TL lt0") | (with_reducible exact And.left (by assumption)) | (with_reducible exact And.left (And.right (by assumption))) | (with_reducible exact And.left (And.right (And.right (by assumption)))) | (with_reducible exact And.left (And.right (And.right (And.right (by assumption))))) | (with_reducible exact And.left (And.right (And.right (And.right (And.right (by assumption)))))) | (with_reducible exact And.left (And.right (And.right (And.right (And.right (And.right (by assumption))))))) | (with_reducible exact And.left (And.right (And.right (And.right (And.right (And.right (And.right (by assumption)))))))) | (with_reducible exact And.left (And.right (And.right (And.right (And.right (And.right (And.right (And.right (by assumption))))))))) | (with_reducible exact And.left (And.right (And.right (And.right (And.right (And.right (And.right (And.right (And.right (by assumption)))))))))) | (with_reducible exact And.left (And.right (And.right (And.right (And.right (And.right (And.right (And.right (And.right (And.right (by assumption))))))))))) | (with_reducible exact And.left (And.right (And.right (And.right (And.right (And.right (And.right (And.right (And.right (And.right (And.right (by assumption)))))))))))) | (with_reducible exact And.left (And.right (And.right (And.right (And.right (And.right (And.right (And.right (And.right (And.right (And.right (And.right (by assumption))))))))))))) | (with_reducible exact And.left (And.right (And.right (And.right (And.right (And.right (And.right (And.right (And.right (And.right (And.right (And.right (And.right (by assumption)))))))))))))) | (with_reducible exact And.left (And.right (And.right (And.right (And.right (And.right (And.right (And.right (And.right (And.right (And.right (And.right (And.right (And.right (by assumption))))))))))))))) | (with_reducible exact And.left (And.right (And.right (And.right (And.right (And.right (And.right (And.right (And.right (And.right (And.right (And.right (And.right (And.right (And.right (by assumption)))))))))))))))) | (with_reducible exact And.left (And.right (And.right (And.right (And.right (And.right (And.right (And.right (And.right (And.right (And.right (And.right (And.right (And.right (And.right (And.right (by assumption))))))))))))))))) | (with_reducible exact And.left (And.right (And.right (And.right (And.right (And.right (And.right (And.right (And.right (And.right (And.right (And.right (And.right (And.right (And.right (And.right (And.right (by assumption)))))))))))))))))) | (with_reducible exact And.left (And.right (And.right (And.right (And.right (And.right (And.right (And.right (And.right (And.right (And.right (And.right (And.right (And.right (And.right (And.right (And.right (And.right (by assumption))))))))))))))))))) | (with_reducible exact And.left (And.right (And.right (And.right (And.right (And.right (And.right (And.right (And.right (And.right (And.right (And.right (And.right (And.right (And.right (And.right (And.right (And.right (And.right (by assumption)))))))))))))))))))) | (with_reducible exact And.left (And.right (And.right (And.right (And.right (And.right (And.right (And.right (And.right (And.right (And.right (And.right (And.right (And.right (And.right (And.right (And.right (And.right (And.right (And.right (by assumption))))))))))))))))))))) | (with_reducible exact And.left (And.right (And.right (And.right (And.right (And.right (And.right (And.right (And.right (And.right (And.right (And.right (And.right (And.right (And.right (And.right (And.right (And.right (And.right (And.right (And.right (by assumption)))))))))))))))))))))) | (with_reducible exact And.left (And.right (And.right (And.right (And.right (And.right (And.right (And.right (And.right (And.right (And.right (And.right (And.right (And.right (And.right (And.right (And.right (And.right (And.right (And.right (And.right (And.right (by assumption))))))))))))))))))))))) | (with_reducible exact And.left (And.right (And.right (And.right (And.right (And.right (And.right (And.right (And.right (And.right (And.right (And.right (And.right (And.right (And.right (And.right (And.right (And.right (And.right (And.right (And.right (And.right (And.right (by assumption)))))))))))))))))))))))) | (with_reducible exact And.left (And.right (And.right (And.right (And.right (And.right (And.right (And.right (And.right (And.right (And.right (And.right (And.right (And.right (And.right (And.right (And.right (And.right (And.right (And.right (And.right (And.right (And.right (And.right (by assumption))))))))))))))))))))))))) | (with_reducible exact And.right (by assumption)) | (with_reducible exact And.right (And.right (by assumption))) | (with_reducible exact And.right (And.right (And.right (by assumption)))) | (with_reducible exact And.right (And.right (And.right (And.right (by assumption))))) | (with_reducible exact And.right (And.right (And.right (And.right (And.right (by assumption)))))) | (with_reducible exact And.right (And.right (And.right (And.right (And.right (And.right (by assumption))))))) | (with_reducible exact And.right (And.right (And.right (And.right (And.right (And.right (And.right (by assumption)))))))) | (with_reducible exact And.right (And.right (And.right (And.right (And.right (And.right (And.right (And.right (by assumption))))))))) | (with_reducible exact And.right (And.right (And.right (And.right (And.right (And.right (And.right (And.right (And.right (by assumption)))))))))) | (with_reducible exact And.right (And.right (And.right (And.right (And.right (And.right (And.right (And.right (And.right (And.right (by assumption))))))))))) | (with_reducible exact And.right (And.right (And.right (And.right (And.right (And.right (And.right (And.right (And.right (And.right (And.right (by assumption)))))))))))) | (with_reducible exact And.right (And.right (And.right (And.right (And.right (And.right (And.right (And.right (And.right (And.right (And.right (And.right (by assumption))))))))))))) | (with_reducible exact And.right (And.right (And.right (And.right (And.right (And.right (And.right (And.right (And.right (And.right (And.right (And.right (And.right (by assumption)))))))))))))) | (with_reducible exact And.right (And.right (And.right (And.right (And.right (And.right (And.right (And.right (And.right (And.right (And.right (And.right (And.right (And.right (by assumption))))))))))))))) | (with_reducible exact And.right (And.right (And.right (And.right (And.right (And.right (And.right (And.right (And.right (And.right (And.right (And.right (And.right (And.right (And.right (by assumption)))))))))))))))) | (with_reducible exact And.right (And.right (And.right (And.right (And.right (And.right (And.right (And.right (And.right (And.right (And.right (And.right (And.right (And.right (And.right (And.right (by assumption))))))))))))))))) | (with_reducible exact And.right (And.right (And.right (And.right (And.right (And.right (And.right (And.right (And.right (And.right (And.right (And.right (And.right (And.right (And.right (And.right (And.right (by assumption)))))))))))))))))) | (with_reducible exact And.right (And.right (And.right (And.right (And.right (And.right (And.right (And.right (And.right (And.right (And.right (And.right (And.right (And.right (And.right (And.right (And.right (And.right (by assumption))))))))))))))))))) | (with_reducible exact And.right (And.right (And.right (And.right (And.right (And.right (And.right (And.right (And.right (And.right (And.right (And.right (And.right (And.right (And.right (And.right (And.right (And.right (And.right (by assumption)))))))))))))))))))) | (with_reducible exact And.right (And.right (And.right (And.right (And.right (And.right (And.right (And.right (And.right (And.right (And.right (And.right (And.right (And.right (And.right (And.right (And.right (And.right (And.right (And.right (by assumption))))))))))))))))))))) | (with_reducible exact And.right (And.right (And.right (And.right (And.right (And.right (And.right (And.right (And.right (And.right (And.right (And.right (And.right (And.right (And.right (And.right (And.right (And.right (And.right (And.right (And.right (by assumption)))))))))))))))))))))) | (with_reducible exact And.right (And.right (And.right (And.right (And.right (And.right (And.right (And.right (And.right (And.right (And.right (And.right (And.right (And.right (And.right (And.right (And.right (And.right (And.right (And.right (And.right (And.right (by assumption))))))))))))))))))))))) | (with_reducible exact And.right (And.right (And.right (And.right (And.right (And.right (And.right (And.right (And.right (And.right (And.right (And.right (And.right (And.right (And.right (And.right (And.right (And.right (And.right (And.right (And.right (And.right (And.right (by assumption)))))))))))))))))))))))))
  k_with "TL ne0" => (refine neN ?_; (try dsimp only); first | (with_reducible assumption) | (refine Ne.symm ?_; with_reducible assumption) | (with_reducible exact And.left (by assumption)) | (with_reducible exact And.left (And.right (by assumption))) | (with_reducible exact And.left (And.right (And.right (by assumption)))) | (with_reducible exact And.left (And.right (And.right (And.right (by assumption))))) | (with_reducible exact And.left (And.right (And.right (And.right (And.right (by assumption)))))) | (with_reducible exact And.left (And.right (And.right (And.right (And.right (And.right (by assumption))))))) | (with_reducible exact Ne.symm <| And.left (by assumption)) | (with_reducible exact Ne.symm <| And.left (And.right (by assumption))) | (with_reducible exact Ne.symm <| And.left (And.right (And.right (by assumption)))) | (with_reducible exact Ne.symm <| And.left (And.right (And.right (And.right (by assumption))))) | (with_reducible exact Ne.symm <| And.left (And.right (And.right (And.right (And.right (by assumption)))))) | (with_reducible exact Ne.symm <| And.left (And.right (And.right (And.right (And.right (And.right (by assumption))))))) | (refine ne_gt ?_; k_extra "TL lt0") | (refine ne_lt ?_; k_extra "TL lt0"))
  k_with "TL le" => (first | (with_reducible assumption) | (with_reducible exact Nat.le_refl _) | (with_reducible exact Nat.succ_le_of_lt (by assumption)) | (with_reducible exact Nat.le_of_lt (by assumption)) | (with_reducible refine le_ss ?_; k_extra "TL le") | ((fail_if_success (with_reducible refine le_ss ?_)); with_reducible refine le_s ?_; k_extra "TL le") | ((fail_if_success (with_reducible refine le_s ?_)); refine le_t ?_ (by with_reducible assumption); k_extra "TL le") | ((fail_if_success (with_reducible refine le_s ?_)); refine le_t ?_ (Nat.le_of_lt (by with_reducible assumption)); k_extra "TL le"))
  k_with "TL mem" => (first | assumption | exact .tail _ (by assumption) | exact .tail _ (.tail _ (by assumption)) | exact .tail _ (.tail _ (.tail _ (by assumption))) | exact .tail _ (.tail _ (.tail _ (.tail _ (by assumption)))))
  k_with "TL@ execs cons" => ((k_here; (with_reducible refine gen_add ?_); intro tkq9 htkq9; (try dsimp only at htkq9); (try dsimp only)))
  k_with "TL@ execs nil" => ((k_here; (with_reducible refine gen_add ?_); intro tkq9 htkq9; (try dsimp only at htkq9); (try dsimp only)))
  k_with "TL@ exec For Name Call cons nil" => ((k_here; ((rename Fr _ _ _ _ => lFq9'); (with_unfolding_all refine' For_TF lFq9' ?fk1 ?fk2 ?_; (case fk1 => exact rfl); (case fk2 => exact rfl); k_whole))))
  k_with "TL@ RangeT" => (k_extra "TL range")
  k_with "TL@ Exists" => (k_extra "TL range")
  intro B F X N T hE
  have hL' := hL.mono (nb' := (I, oI) :: nb) (mm' := fun y => if y = Str.ofString "a" then some (.int (0 + (i : Int)) ta) else m₁ y) (fun p hp => .tail _ hp) (fun y e1 e2 e3 => by rw [if_neg e1]; exact hm y e1 e2 e3)
  have g3 : ∀ p ∈ (I, oI) :: nb, p.1 ≠ FA := by
    intro p hp
    rcases List.mem_cons.mp hp with rfl | hp
    · exact Ne.symm (hnI _ (.head _))
    · exact f3 p hp
  have g4 : ∀ p ∈ (I, oI) :: nb, p.1 ≠ L + 1 + 1 := by
    intro p hp
    rcases List.mem_cons.mp hp with rfl | hp
    · exact Ne.symm (hnI (L + 1 + 1, o2) (.tail _ (.head _)))
    · exact f4 p hp
  have g5 : ∀ p ∈ (I, oI) :: nb, p.1 ≠ L + 1 := by
    intro p hp
    rcases List.mem_cons.mp hp with rfl | hp
    · exact Ne.symm (hnI (L + 1, o1) (.tail _ (.tail _ (.head _))))
    · exact f5 p hp
  dsimp only [lawOuter, forBody, lawScope, fnScope, lawBody, lawStmt, Challenge.pw_tl0040_01, fnBody, List.getLastD, List.getLast?, List.getLast, List.drop, List.getD, List.getElem?_cons_succ, List.getElem?_cons_zero, Option.getD]
  k_with "TL range" => (k_here; k_dflt (refine' rangeT_intro (a := ?rlo) (lwJ FA L ((I, oI) :: nb) (fun y => if y = Str.ofString "a" then some (.int (0 + (i : Int)) ta) else m₁ y) (Str.ofString "b") 1 (fun j => (ws ≠ []) ∨ ∃ b, ?rlo ≤ b ∧ b < ?rlo + (j : Int) ∧ fairP ns (0 + (i : Int)) b = true) (5 * i)) ?rh ?rr ?rs ?rF ?rN ?rj ?rt ?rd; (case rh => exact rfl); (case rr => assumption); (case rs => exact range_small (by split <;> omega) (by split <;> omega) (.inl rfl)); (case rF => k_asm); (case rj => exact ⟨ws, jf, o1, o2, v1, v2, rfl, d2, d1, by omega, fun q => q.elim id (fun ⟨b, q1, q2, _⟩ => absurd q2 (by omega)), fun y _ _ _ => rfl⟩); (case rN => exact news_sub (by k_asm) (by kcf_all)); (case rt => (intro i2 tk2 m₂ nw2 h2 tkk I2 oI2 hi2 hle2 hJ2 hn2 F2 N2; (try dsimp only at hle2); (have hlo4 := lo_facts hi hi2); exact law_inner w mean mg mb h₀ L fa ccd _ _ ns kv jk jw u1 u2 u3 y1 y2 y3 ta tk2 K HF MO TA WH W0 W1 FA I2 oI2 ((I, oI) :: nb) (fun y => if y = Str.ofString "a" then some (.int (0 + (i : Int)) ta) else m₁ y) m₂ nw2 (0 + (i : Int)) _ i2 (5 * i) h2 tkk (ws ≠ []) hw (by omega) (by omega) hlo4.1 hlo4.2 (by omega) (hok _ (by have := hlo4.1; omega) hlo4.2) hL' (by show (if Str.ofString "a" = Str.ofString "a" then _ else _) = _; rw [if_pos rfl]) ⟨by have := ht.1; omega, by have := ht.2.1; omega, by have := ht.2.2.1; omega, by have := ht.2.2.2; omega⟩ f1 f2 g3 g4 g5 hJ2 hn2 B F2 X N2 T)); (case' rd => (rintro m₂ nw2 h2 tk2 hle2 ⟨ws', jf', o1', o2', v1', v2', rfl, e2, e1, hl', hP', hm'⟩ F2 N2))))
  w_strict (k_steps; all_goals first
    | (refine ⟨rfl, _, _, _, (FA, W.listOf (List.toArray ws') jf') :: (L + 1 + 1, o2') :: (L + 1, o1') :: nb, rfl, F2, news_sub N2 (by kcf_all), ?_, ws', jf', o1', o2', v1', v2', rfl, e2, e1, ?_, ?_, ?_⟩
       · intro p hp
         rcases List.mem_cons.mp hp with rfl | hp
         · exact hnI (FA, W.listOf (List.toArray ws) jf) (.head _)
         rcases List.mem_cons.mp hp with rfl | hp
         · exact hnI (L + 1 + 1, o2) (.tail _ (.head _))
         rcases List.mem_cons.mp hp with rfl | hp
         · exact hnI (L + 1, o1) (.tail _ (.tail _ (.head _)))
         exact hnI p (.tail _ (.tail _ (.tail _ hp)))
       · have : ((5 : Int) - (if (1 : Int) < 0 + (i : Int) then 1 else 0 + (i : Int))).toNat ≤ 5 := by split <;> omega
         omega
       · rintro ⟨a, b, q0, q1, q2, q3, q4, q5⟩
         by_cases ha : a < (i : Int)
         · exact hP' (.inl (hP ⟨a, b, q0, ha, q2, q3, q4, q5⟩))
         · obtain rfl : a = 0 + (i : Int) := by omega
           refine hP' (.inr ⟨b, ?_, ?_, q5⟩)
           · split <;> omega
           · split <;> omega
       · intro y q1 q2 q3
         rw [hm' y q2 q2 q3]
         show (if y = Str.ofString "a" then _ else m₁ y) = _
         rw [if_neg q1]
         exact hm y q1 q2 q3))
end TL
end

section
open PySem PySem.W PySem.Spec PySem.Calls PyProof.Rows
set_option linter.unusedVariables false
set_option maxRecDepth 100000
set_option maxHeartbeats 8000000
namespace TL
theorem fair_map {mm m₂ : Str → Option Value} {h₀ h2 : Heap} {L FA : Addr} (hm : ∀ y, y ≠ Str.ofString "a" → y ≠ Str.ofString "b" → ¬ Own y → m₂ y = mm y) (mFA : mm (Str.ofString "fair") = some (.ref FA)) (F : Fr h₀ L h2 m₂) : Fr h₀ L h2 (fun y => if y = Str.ofString "fair" then some (.ref FA) else m₂ y) := by
  have e : ovr m₂ [(Str.ofString "fair", .ref FA)] = m₂ := ovr_eq (by intro p hp; rw [List.mem_singleton.mp hp]; show m₂ (Str.ofString "fair") = _; rw [hm _ (by decide) (by decide) (by unfold Own; decide)]; exact mFA)
  have e2 : (fun y => if y = Str.ofString "fair" then some (.ref FA) else m₂ y) = m₂ := e
  rw [e2]
  exact F
theorem ne_nil_list {prog : Program} {w : World} {A : Around} {E : Value → Shared → Prop} {s : Shared} {h₀ : Heap} {L a b : Addr} {news : List (Addr × Obj)} {ws : List Value} {j k : Nat} {Q : Value → Shared → Prop} (N : News h₀ L s.heap news) (ha : (a, W.listOf (List.toArray ws) j) ∈ news) (hb : (b, W.listOf #[] k) ∈ news) (hu : A.units < cLine) (hne : ws ≠ []) (h : Q (.bool true) s) :
    wpAny (model prog w) A (compareOp .NotEq (.ref a) (.ref b)) Q E s :=
  PySem.SeqAt.RcNeAt.lists_lengths ⟨_, (N _ ha).1, rfl, _, rfl⟩ ⟨_, (N _ hb).1, rfl, _, rfl⟩ (by cases ws with | nil => exact absurd rfl hne | cons x r => simp) hu prog w E Q h
/-- both loops, and the answer -/
theorem law_loops (w : World) (mean : ExcName → Option Value) (mg mb : Str → Option Value) (h₀ : Heap) (L : Addr) (fa : Addr) (ccd : Value) (s : Shared) (Q : Flow → Shared → Prop) (E : Value → Shared → Prop) (ns : List Int) (kv : List Value) (jk jw jf : Nat) (u1 u2 u3 y1 y2 y3 : Tok) (K HF MO TA WH W0 W1 FA : Addr) (nb : List (Addr × Obj)) (mm : Str → Option Value) (o1 o2 : Obj) (v1 v2 : Option Value)
    (hw : Word ns) (hok : ∀ a b, 0 ≤ a → a ≤ 3 → 0 ≤ b → b ≤ 4 → TurnOk ns a b (lightOf a b)) (hfair : outP ns 4)
    (hL : Lw w.params ns kv jk jw u1 u2 u3 y1 y2 y3 K HF MO TA WH W0 W1 nb mm FA)
    (ht : @LT.lt Nat _ u1 s.toks ∧ @LT.lt Nat _ u2 s.toks ∧ @LT.lt Nat _ y1 s.toks ∧ @LT.lt Nat _ y2 s.toks)
    (f1 : @Ne Nat FA (L + 1 + 1)) (f2 : @Ne Nat FA (L + 1)) (f3 : ∀ p ∈ nb, p.1 ≠ FA) (f4 : ∀ p ∈ nb, p.1 ≠ L + 1 + 1) (f5 : ∀ p ∈ nb, p.1 ≠ L + 1) (d2 : o2.data = .cell v2) (d1 : o1.data = .cell v1) :
    ∀ (B : Below callerA h₀ [] h₀) (F : Fr h₀ L s.heap mm) (X : (hd.heap_39 w.params).In h₀) (N : News h₀ L s.heap ((FA, W.listOf (List.toArray []) jf) :: (L + 1 + 1, o2) :: (L + 1, o1) :: nb)) (T : Top hd.view_39 (looseW hd.view_39 [Str.ofString "Whitespace", Str.ofString "ONE_THIRD", Str.ofString "ONE_SIXTH", Str.ofString "TWO_THIRD"]) mean mg mb h₀),
    PassesOwn (model Challenge.rw_tl0040_01.row.prog w) (callerA.deeper (envOfC (Str.ofString "law") lawScope L fa ccd)) (envOfC (Str.ofString "law") lawScope L fa ccd) E →
    (∀ (m' : Str → Option Value) (h' : Heap) (tk' : Nat), Fr h₀ L h' m' → Q (.ret (.bool true)) { s with heap := h', toks := tk' }) →
    wpAny (model Challenge.rw_tl0040_01.row.prog w) (callerA.deeper (envOfC (Str.ofString "law") lawScope L fa ccd)) (execs (lawBody.drop 12) (envOfC (Str.ofString "law") lawScope L fa ccd)) Q E s := by
  k_fill
  w_top on
  w_on
  k_with_none
  k_with "TL lt0" => (first | (with_reducible assumption) | (refine lt_t ?_ (by with_reducible assumption); k_extra "TL lt0") | (with_reducible exact And.left (by assumption)) | (with_reducible exact And.left (And.right (by assumption))) | (with_reducible exact And.left (And.right (And.right (by assumption)))) | (with_reducible exact And.left (And.right (And.right (And.right (by assumption))))) | (with_reducible exact And.left (And.right (And.right (And.right (And.right (by assumption)))))) | (with_reducible exact And.left (And.right (And.right (And.right (And.right (And.right (by assumption))))))) | (with_reducible exact And.left (And.right (And.right (And.right (And.right (And.right (And.right (by assumption)))))))) | (with_reducible exact And.left (And.right (And.right (And.right (And.right (And.right (And.right (And.right (by assumption))))))))) | (with_reducible exact And.left (And.right (And.right (And.right (And.right (And.right (And.right (And.right (And.right (by assumption)))))))))) | (with_reducible exact And.left (And.right (And.right (And.right (And.right (And.right (And.right (And.right (And.right (And.right (by assumption))))))))))) | (with_reducible exact And.left (And.right (And.right (And.right (And.right (And.right (And.right (And.right (And.right (And.right (And.right (by assumption)))))))))))) | (with_reducible exact And.left (And.right (And.right (And.right (And.right (And.right (And.right (And.right (And.right (And.right (And.right (And.right (by assumption))))))))))))) | (with_reducible exact And.left (And.right (And.right (And.right (And.right (And.right (And.right (And.right (And.right (And.right (And.right (And.right (And.right (by assumption)))))))))))))) | (with_reducible exact And.left (And.right (And.right (And.right (And.right (And.right (And.right (And.right (And.right (And.right (And.right (And.right (And.right (And.right (by assumption))))))))))))))) | (with_reducible exact And.left (And.right (And.right (And.right (And.right (And.right (And.right (And.right (And.right (And.right (And.right (And.right (And.right (And.right (And.right (by assumption)))))))))))))))) | (with_reducible exact And.left (And.right (And.right (And.right (And.right (And.right (And.right (And.right (And.right (And.right (And.right (And.right (And.right (And.right (And.right (And.right (by assumption))))))))))))))))) | (with_reducible exact And.left (And.right (And.right (And.right (And.right (And.right (And.right (And.right (And.right (And.right (And.right (And.right (And.right (And.right (And.right (And.right (And.right (by assumption)))))))))))))))))) | (with_reducible exact And.left (And.right (And.right (And.right (And.right (And.right (And.right (And.right (And.right (And.right (And.right (And.right (And.right (And.right (And.right (And.right (And.right (And.right (by assumption))))))))))))))))))) | (with_reducible exact And.left (And.right (And.right (And.right (And.right (And.right (And.right (And.right (And.right (And.right (And.right (And.right (And.right (And.right (And.right (And.right (And.right (And.right (And.right (by assumption)))))))))))))))))))) | (with_reducible exact And.left (And.right (And.right (And.right (And.right (And.right (And.right (And.right (And.right (And.right (And.right (And.right (And.right (And.right (And.right (And.right (And.right (And.right (And.right (And.right (by assumption))))))))))))))))))))) | (with_reducible exact And.left (And.right (And.right (And.right (And.right (And.right (And.right (And.right (And.right (And.right (And.right (And.right (And.right (And.right (And.right (And.right (And.right (And.right (And.right (And.right (And.right (by assumption)))))))))))))))))))))) | (with_reducible exact And.left (And.right (And.right (And.right (And.right (And.right (And.right (And.right (And.right (And.right (And.right (And.right (And.right (And.right (And.right (And.right (And.right (And.right (And.right (And.right (And.right (And.right (by assumption))))))))))))))))))))))) | (with_reducible exact And.left (And.right (And.right (And.right (And.right (And.right (And.right (And.right (And.right (And.right (And.right (And.right (And.right (And.right (And.right (And.right (And.right (And.right (And.right (And.right (And.right (And.right (And.right (by assumption)))))))))))))))))))))))) | (with_reducible exact And.left (And.right (And.right (And.right (And.right (And.right (And.right (And.right (And.right (And.right (And.right (And.right (And.right (And.right (And.right (And.right (And.right (And.right (And.right (And.right (And.right (And.right (And.right (And.right (by assumption))))))))))))))))))))))))) | (with_reducible exact And.right (by assumption)) | (with_reducible exact And.right (And.right (by assumption))) | (with_reducible exact And.right (And.right (And.right (by assumption)))) | (with_reducible exact And.right (And.right (And.right (And.right (by assumption))))) | (with_reducible exact And.right (And.right (And.right (And.right (And.right (by assumption)))))) | (with_reducible exact And.right (And.right (And.right (And.right (And.right (And.right (by assumption))))))) | (with_reducible exact And.right (And.right (And.right (And.right (And.right (And.right (And.right (by assumption)))))))) | (with_reducible exact And.right (And.right (And.right (And.right (And.right (And.right (And.right (And.right (by assumption))))))))) | (with_reducible exact And.right (And.right (And.right (And.right (And.right (And.right (And.right (And.right (And.right (by assumption)))))))))) | (with_reducible exact And.right (And.right (And.right (And.right (And.right (And.right (And.right (And.right (And.right (And.right (by assumption))))))))))) | (with_reducible exact And.right (And.right (And.right (And.right (And.right (And.right (And.right (And.right (And.right (And.right (And.right (by assumption)))))))))))) | (with_reducible exact And.right (And.right (And.right (And.right (And.right (And.right (And.right (And.right (And.right (And.right (And.right (And.right (by assumption))))))))))))) | (with_reducible exact And.right (And.right (And.right (And.right (And.right (And.right (And.right (And.right (And.right (And.right (And.right (And.right (And.right (by assumption)))))))))))))) | (with_reducible exact And.right (And.right (And.right (And.right (And.right (And.right (And.right (And.right (And.right (And.right (And.right (And.right (And.right (And.right (by assumption))))))))))))))) | (with_reducible exact And.right (And.right (And.right (And.right (And.right (And.right (And.right (And.right (And.right (And.right (And.right (And.right (And.right (And.right (And.right (by assumption)))))))))))))))) | (with_reducible exact And.right (And.right (And.right (And.right (And.right (And.right (And.right (And.right (And.right (And.right (And.right (And.right (And.right (And.right (And.right (And.right (by assumption))))))))))))))))) | (with_reducible exact And.right (And.right (And.right (And.right (And.right (And.right (And.right (And.right (And.right (And.right (And.right (And.right (And.right (And.right (And.right (And.right (And.right (by assumption)))))))))))))))))) | (with_reducible exact And.right (And.right (And.right (And.right (And.right (And.right (And.right (And.right (And.right (And.right (And.right (And.right (And.right (And.right (And.right (And.right (And.right (And.right (by assumption))))))))))))))))))) | (with_reducible exact And.right (And.right (And.right (And.right (And.right (And.right (And.right (And.right (And.right (And.right (And.right (And.right (And.right (And.right (And.right (And.right (And.right (And.right (And.right (by assumption)))))))))))))))))))) | (with_reducible exact And.right (And.right (And.right (And.right (And.right (And.right (And.right (And.right (And.right (And.right (And.right (And.right (And.right (And.right (And.right (And.right (And.right (And.right (And.right (And.right (by assumption))))))))))))))))))))) | (with_reducible exact And.right (And.right (And.right (And.right (And.right (And.right (And.right (And.right (And.right (And.right (And.right (And.right (And.right (And.right (And.right (And.right (And.right (And.right (And.right (And.right (And.right (by assumption)))))))))))))))))))))) | (with_reducible exact And.right (And.right (And.right (And.right (And.right (And.right (And.right (And.right (And.right (And.right (And.right (And.right (And.right (And.right (And.right (And.right (And.right (And.right (And.right (And.right (And.right (And.right (by assumption))))))))))))))))))))))) | (with_reducible exact And.right (And.right (And.right (And.right (And.right (And.right (And.right (And.right (And.right (And.right (And.right (And.right (And.right (And.right (And.right (And.right (And.right (And.right (And.right (And.right (And.right (And.right (And.right (by assumption)))))))))))))))))))))))))
  k_with "TL ne0" => (refine neN ?_; (try dsimp only); first | (with_reducible assumption) | (refine Ne.symm ?_; with_reducible assumption) | (with_reducible exact And.left (by assumption)) | (with_reducible exact And.left (And.right (by assumption))) | (with_reducible exact And.left (And.right (And.right (by assumption)))) | (with_reducible exact And.left (And.right (And.right (And.right (by assumption))))) | (with_reducible exact And.left (And.right (And.right (And.right (And.right (by assumption)))))) | (with_reducible exact And.left (And.right (And.right (And.right (And.right (And.right (by assumption))))))) | (with_reducible exact Ne.symm <| And.left (by assumption)) | (with_reducible exact Ne.symm <| And.left (And.right (by assumption))) | (with_reducible exact Ne.symm <| And.left (And.right (And.right (by assumption)))) | (with_reducible exact Ne.symm <| And.left (And.right (And.right (And.right (by assumption))))) | (with_reducible exact Ne.symm <| And.left (And.right (And.right (And.right (And.right (by assumption)))))) | (with_reducible exact Ne.symm <| And.left (And.right (And.right (And.right (And.right (And.right (by assumption))))))) | (refine ne_gt ?_; k_extra "TL lt0") | (refine ne_lt ?_; k_extra "TL lt0"))
  k_with "TL le" => (first | (with_reducible assumption) | (with_reducible exact Nat.le_refl _) | (with_reducible exact Nat.succ_le_of_lt (by assumption)) | (with_reducible exact Nat.le_of_lt (by assumption)) | (with_reducible refine le_ss ?_; k_extra "TL le") | ((fail_if_success (with_reducible refine le_ss ?_)); with_reducible refine le_s ?_; k_extra "TL le") | ((fail_if_success (with_reducible refine le_s ?_)); refine le_t ?_ (by with_reducible assumption); k_extra "TL le") | ((fail_if_success (with_reducible refine le_s ?_)); refine le_t ?_ (Nat.le_of_lt (by with_reducible assumption)); k_extra "TL le"))
  k_with "TL mem" => (first | assumption | exact .tail _ (by assumption) | exact .tail _ (.tail _ (by assumption)) | exact .tail _ (.tail _ (.tail _ (by assumption))) | exact .tail _ (.tail _ (.tail _ (.tail _ (by assumption)))))
  k_with "TL@ execs cons" => ((k_here; (with_reducible refine gen_add ?_); intro tkq9 htkq9; (try dsimp only at htkq9); (try dsimp only)))
  k_with "TL@ execs nil" => ((k_here; (with_reducible refine gen_add ?_); intro tkq9 htkq9; (try dsimp only at htkq9); (try dsimp only)))
  k_with "TL@ exec For Name Call cons nil" => ((k_here; ((rename Fr _ _ _ _ => lFq9'); (with_unfolding_all refine' For_TF lFq9' ?fk1 ?fk2 ?_; (case fk1 => exact rfl); (case fk2 => exact rfl); k_whole))))
  k_with "TL@ RangeT" => (k_extra "TL range")
  k_with "TL@ Exists" => (k_extra "TL range")
  k_with "TL@ compareOp NotEq ref ref" => (k_extra "TL ne")
  intro B F X N T hE hret
  have mFA := hL.mFA
  dsimp only [lawScope, fnScope, lawBody, lawStmt, Challenge.pw_tl0040_01, fnBody, List.getLastD, List.getLast?, List.getLast, List.drop]
  k_with "TL ne" => (k_here; k_dflt (refine' ne_nil_list ?nN ?na ?nb ?nu hne ?_; (case nN => k_asm); (case na => k_mem); (case nb => exact .head _); (case nu => exact (by decide +kernel : 4 + 3 < cLine))))
  k_with "TL range" => (k_here; k_dflt (refine' rangeT_intro (a := 0) (b := 4) (lwJ FA L nb mm (Str.ofString "a") 5 (outP ns) 0) ?rh ?rr ?rs ?rF ?rN ?rj ?rt ?rd; (case rh => exact rfl); (case rr => assumption); (case rs => exact range_small (by decide) (by decide) (.inr rfl)); (case rF => k_asm); (case rj => exact ⟨[], jf, o1, o2, v1, v2, rfl, d2, d1, Nat.le_refl _, fun ⟨a, b, q0, q1, _⟩ => absurd q1 (by omega), fun y _ _ _ => rfl⟩); (case rN => exact news_sub (by k_asm) (by kcf_all)); (case rt => (intro i2 tk2 m₂ nw2 h2 tkk I2 oI2 hi2 hle2 hJ2 hn2 F2 N2; (try dsimp only at hle2); exact law_outer w mean mg mb h₀ L fa ccd _ _ ns kv jk jw u1 u2 u3 y1 y2 y3 tk2 K HF MO TA WH W0 W1 FA I2 oI2 nb mm m₂ nw2 i2 h2 tkk hw (by omega) (fun b q0 q1 => hok _ b (by omega) (by omega) q0 q1) hL ⟨by have := ht.1; omega, by have := ht.2.1; omega, by have := ht.2.2.1; omega, by have := ht.2.2.2; omega⟩ f1 f2 f3 f4 f5 hJ2 hn2 B F2 X N2 T hE)); (case' rd => (rintro m₂ nw2 h2 tk2 hle2 ⟨ws', jf', o1', o2', v1', v2', rfl, e2, e1, hl', hP', hm'⟩ F2 N2; (have hne := hP' hfair); (have F3 := fair_map hm' mFA F2); clear F2))))
  w_strict (k_steps; all_goals first
    | exact hret _ _ _ (by assumption))
end TL
end

section
open PySem PySem.W PySem.Spec PySem.Calls PyProof.Rows
set_option maxRecDepth 100000
set_option maxHeartbeats 8000000
namespace TL
def halfC (ns : List Int) : Nat × Nat × Nat := (ns.count 0 / 2, ns.count 1 / 2, ns.count 2 / 2)
def evenB (ns : List Int) : Bool := (ns.count 0 % 2 == 0) && (ns.count 1 % 2 == 0) && (ns.count 2 % 2 == 0)
def fairAt (ns : List Int) (a b : Nat) : Bool := (a == 0 || b != 0) && (cnt (shOf ns a b) == halfC ns)
def fairB (ns : List Int) : Bool := (List.range 4).any fun a => (List.range 5).any fun b => fairAt ns a b
def all8 : List (List Int) := ext3 (ext3 (ext3 (ext3 all81)))
theorem fair8 : (all8.all fun ns => !evenB ns || fairB ns) = true := by decide +kernel
end TL
end

section
open PySem PySem.W PySem.Spec PySem.Calls PyProof.Rows
set_option linter.unusedVariables false
set_option maxRecDepth 100000
set_option maxHeartbeats 8000000
namespace TL
theorem mem_ext {L : List (List Int)} {l : List Int} {x : Int} (h : l ∈ L) (h0 : 0 ≤ x) (h2 : x ≤ 2) : x :: l ∈ ext3 L := by
  refine List.mem_flatMap.mpr ⟨l, h, ?_⟩
  obtain rfl | rfl | rfl : x = 0 ∨ x = 1 ∨ x = 2 := int012 (by first | assumption | exact ⟨by assumption, by assumption⟩)
  · exact .head _
  · exact .tail _ (.head _)
  · exact .tail _ (.tail _ (.head _))
theorem mem_81 {l : List Int} (hl : l.length = 4) (h : ∀ x ∈ l, 0 ≤ x ∧ x ≤ 2) : l ∈ all81 := by
  match l, hl with
  | [a, b, c, d], _ =>
    have ha := h a (.head _)
    have hb := h b (.tail _ (.head _))
    have hc := h c (.tail _ (.tail _ (.head _)))
    have hd := h d (.tail _ (.tail _ (.tail _ (.head _))))
    exact mem_ext (mem_ext (mem_ext (mem_ext (.head _) hd.1 hd.2) hc.1 hc.2) hb.1 hb.2) ha.1 ha.2
theorem mem_8 {l : List Int} (hl : l.length = 8) (h : ∀ x ∈ l, 0 ≤ x ∧ x ≤ 2) : l ∈ all8 := by
  match l, hl with
  | a :: b :: c :: d :: r, hl =>
    have ha := h a (.head _)
    have hb := h b (.tail _ (.head _))
    have hc := h c (.tail _ (.tail _ (.head _)))
    have hd := h d (.tail _ (.tail _ (.tail _ (.head _))))
    have hr : r ∈ all81 := mem_81 (by simp only [List.length_cons] at hl; omega) fun x hx => h x (.tail _ (.tail _ (.tail _ (.tail _ hx))))
    exact mem_ext (mem_ext (mem_ext (mem_ext hr hd.1 hd.2) hc.1 hc.2) hb.1 hb.2) ha.1 ha.2
theorem tri_all : ∀ a, a < 5 → ∀ b, b < 5 → (a, b, 4 - (a + b)) ∈ tri4 ∨ 4 < a + b := by decide +kernel
theorem tri_mem {a b c : Nat} (h : a + b + c = 4) : (a, b, c) ∈ tri4 := by
  have ha : a < 5 := Nat.lt_succ_of_le (h ▸ Nat.le_trans (Nat.le_add_right a b) (Nat.le_add_right _ c))
  have hb : b < 5 := Nat.lt_succ_of_le (h ▸ Nat.le_trans (Nat.le_add_left b a) (Nat.le_add_right _ c))
  have hc : c = 4 - (a + b) := Nat.eq_sub_of_add_eq (by rw [Nat.add_comm]; exact h)
  rcases tri_all a ha b hb with q | q
  · rw [hc]; exact q
  · exact absurd q (Nat.not_lt.mpr (h ▸ Nat.le_add_right (a + b) c))
theorem cnt_mem {l : List Int} (hl : l.length = 4) (h : ∀ x ∈ l, 0 ≤ x ∧ x ≤ 2) : cnt l ∈ tri4 := tri_mem (by rw [← hl]; exact count_sum h)
/-- the half of a word, and the counts of the word from it -/
theorem word_tri {ns : List Int} (h : Word ns) : ∃ t ∈ tri4, ns.count 0 = 2 * t.1 ∧ ns.count 1 = 2 * t.2.1 ∧ ns.count 2 = 2 * t.2.2 ∧ halfOf ns = rep t ∧ halfC ns = t := by
  obtain ⟨a, b, c, ha, hb, hc, hs, e0, e1, e2, eh⟩ := word_half h
  refine ⟨(a, b, c), tri_mem hs, e0, e1, e2, eh, ?_⟩
  unfold halfC
  rw [e0, e1, e2]
  simp
theorem hue_eq (l : List Int) (light : Bool) : hueOf l light = hueC (l.count 0) (l.count 1) (l.count 2) light := rfl
theorem pre_eq (l : List Int) (light : Bool) : huePre l light = preC (l.count 0) (l.count 1) (l.count 2) light := rfl
theorem hueW' {ns : List Int} (h : Word ns) (light : Bool) : huePre ns light = true := by
  obtain ⟨t, ht, e0, e1, e2, _⟩ := word_tri h
  rw [pre_eq, e0, e1, e2]
  cases light with
  | true => exact (pre8 t ht).2
  | false => exact (pre8 t ht).1
theorem sh_sub {ns : List Int} {a b : Int} (a0 : 0 ≤ a) (b0 : 0 ≤ b) : (shOf ns a b).Sublist ns := by
  have h1 : (List.take (min (4 + b).toNat ns.length - (a + b).toNat) (List.drop (a + b).toNat ns)).Sublist (List.drop a.toNat ns) := by
    refine (List.take_sublist _ _).trans ?_
    have e : (a + b).toNat = a.toNat + b.toNat := Int.toNat_add a0 b0
    rw [e, ← List.drop_drop]
    exact List.drop_sublist _ _
  have h2 := (List.Sublist.refl (List.take a.toNat ns)).append h1
  rw [List.take_append_drop] at h2
  exact h2
theorem sh_len {ns : List Int} (h : ns.length = 8) {a b : Int} (a0 : 0 ≤ a) (a3 : a ≤ 3) (b0 : 0 ≤ b) (b4 : b ≤ 4) : (shOf ns a b).length = 4 := by
  obtain ⟨a, rfl⟩ := Int.eq_ofNat_of_zero_le a0
  obtain ⟨b, rfl⟩ := Int.eq_ofNat_of_zero_le b0
  have ha : a < 4 := Int.ofNat_lt.mp (Int.lt_of_le_of_lt a3 (by decide))
  have hb : b < 5 := Int.ofNat_lt.mp (Int.lt_of_le_of_lt b4 (by decide))
  unfold shOf
  rw [List.length_append, List.length_take, List.length_take, List.length_drop, h]
  clear a0 a3 b0 b4
  revert hb
  revert b
  revert ha
  revert a
  decide
theorem colOf_congr {f g : Nat → Int} (h0 : f 0 = g 0) (h1 : f 1 = g 1) (h2 : f 2 = g 2) (k : Int) : colOf f k = colOf g k := by
  unfold colOf
  rw [h0, h1, h2]
theorem and3 {a b c : Bool} (h : (a && b && c) = true) : a = true ∧ b = true ∧ c = true := by
  simp only [Bool.and_eq_true] at h
  exact ⟨h.1.1, h.1.2, h.2⟩
theorem top_eq {ns : List Int} {t : Nat × Nat × Nat} (hw : Word ns) (e0 : ns.count 0 = 2 * t.1) (e1 : ns.count 1 = 2 * t.2.1) (e2 : ns.count 2 = 2 * t.2.2) {M : Int} (hm : M ∈ ns) (hM : ∀ x ∈ ns, x ≤ M) : M = topOf t := by
  have hb := hw.2.1 M hm
  have pos : ∀ q : Int, 0 < ns.count q → q ≤ M := fun q hq => hM q (List.count_pos_iff.mp hq)
  have own : 0 < ns.count M := List.count_pos_iff.mpr hm
  unfold topOf
  split
  · rename_i h2
    have := pos 2 (by omega)
    omega
  · rename_i h2
    have n2 : M ≠ 2 := fun e => by rw [e] at own; omega
    split
    · rename_i h1
      have := pos 1 (by omega)
      omega
    · rename_i h1
      have n1 : M ≠ 1 := fun e => by rw [e] at own; omega
      omega
theorem turn_ok {ns : List Int} (h : Word ns) {a b : Int} (a0 : 0 ≤ a) (a3 : a ≤ 3) (b0 : 0 ≤ b) (b4 : b ≤ 4) (light : Bool) : TurnOk ns a b light := by
  obtain ⟨t, ht, e0, e1, e2, eh, _⟩ := word_tri h
  have hlen := sh_len h.1 a0 a3 b0 b4
  have hsub := sh_sub (ns := ns) a0 b0
  have hk : ∀ k ∈ shOf ns a b, 0 ≤ k ∧ k ≤ 2 := fun k hk => h.2.1 k (hsub.subset hk)
  have hc := cnt_mem hlen hk
  have h81 := mem_81 hlen hk
  have c0 := hsub.count_le 0
  have c1 := hsub.count_le 1
  have c2 := hsub.count_le 2
  generalize hsh : shOf ns a b = sh at hlen hk hc h81 c0 c1 c2
  have ehs : ∀ l, hueOf sh l = hueC (cnt sh).1 (cnt sh).2.1 (cnt sh).2.2 l := fun l => hue_eq sh l
  have ehn : ∀ l, hueOf ns l = hueC (2 * t.1) (2 * t.2.1) (2 * t.2.2) l := fun l => by rw [hue_eq, e0, e1, e2]
  have hal : alikeF sh ns light = alikeC (cnt sh) t light := by
    unfold alikeF alikeC
    rw [ehs, ehn]
  have hok : alikeOk (cnt sh) t light = true := by
    cases light with
    | true => exact alike4t _ hc t ht
    | false => exact alike4f _ hc t ht
  have hok' := Bool.and_eq_true_iff.mp hok
  have hws := and3 (ws81 sh h81 t ht)
  have hself := self4 _ hc
  simp only [Bool.and_eq_true] at hself
  refine ⟨?_, ?_, ?_, ?_, ?_, ?_, ?_, ?_, ?_⟩
  · rw [hsh]; omega
  · rw [hsh]; exact hk
  · rw [hsh, pre_eq]
    cases light with
    | true => exact (pre4 _ hc).2
    | false => exact (pre4 _ hc).1
  · rw [hsh, ehs]
    rintro x y rfl (rfl | rfl)
    · cases light with
      | true => exact hself.1.2
      | false => exact hself.1.1.1
    · cases light with
      | true => exact hself.2
      | false => exact hself.1.1.2
  · rw [hsh, ehs, ehn]
    intro q1 q2
    have q := hok'.2
    rw [q1, q2] at q
    simpa using q
  · rw [hsh, eh, hal, eq_of_beq hok'.1]
    exact eq_of_beq hws.1
  · rw [hsh, eh]
    exact eq_of_beq hws.2.1
  · rw [hsh, eh]
    exact eq_of_beq hws.2.2
  · rintro rfl
    rw [hsh, eh]
    have hr := rows81 sh h81 t ht
    unfold rowsB at hr
    have g0 : decide ((cnt sh).1 ≤ 2 * t.1) = true := decide_eq_true (by show sh.count 0 ≤ _; omega)
    have g1 : decide ((cnt sh).2.1 ≤ 2 * t.2.1) = true := decide_eq_true (by show sh.count 1 ≤ _; omega)
    have g2 : decide ((cnt sh).2.2 ≤ 2 * t.2.2) = true := decide_eq_true (by show sh.count 2 ≤ _; omega)
    rw [g0, g1, g2] at hr
    simp only [Bool.and_self, Bool.not_true, Bool.false_or, Bool.and_eq_true, decide_eq_true_eq] at hr
    obtain ⟨⟨⟨⟨⟨r1, r2⟩, r3⟩, r4⟩, r5⟩, r6⟩ := hr
    have hh : hereOk (cnt sh) light = true := by
      cases light with
      | true => exact (here4 _ hc).2
      | false => exact (here4 _ hc).1
    have hth : thereOk t light = true := by
      cases light with
      | true => exact (there4 t ht).2
      | false => exact (there4 t ht).1
    unfold hereOk at hh
    unfold thereOk at hth
    simp only [Bool.and_eq_true] at hh hth
    have told : ∀ n, toldP sh ns light n = toldI (cnt sh) t n := by
      intro n
      unfold toldP toldI rowsP
      have e : ∀ k, colOf (hereF sh light) k = colOf (cF (cnt sh)) k := fun k => by
        refine colOf_congr ?_ ?_ ?_ k
        · unfold hereF; rw [ehs]; exact eq_of_beq hh.1.1.2
        · unfold hereF; rw [ehs]; exact eq_of_beq hh.1.2
        · unfold hereF; rw [ehs]; exact eq_of_beq hh.2
      have e' : ∀ k, colOf (thereF ns light) k = colOf (cF t) k := fun k => by
        refine colOf_congr ?_ ?_ ?_ k
        · unfold thereF; rw [ehn]; exact eq_of_beq hth.1.1.2
        · unfold thereF; rw [ehn]; exact eq_of_beq hth.1.2
        · unfold thereF; rw [ehn]; exact eq_of_beq hth.2
      simp only [e, e']
    refine ⟨?_, ?_, r1, r2, r3, r4, ?_⟩
    · rw [ehs]; exact hh.1.1.1
    · rw [ehn]; exact hth.1.1.1
    · intro M hm hM
      rw [top_eq h e0 e1 e2 hm hM, told]
      exact ⟨eq_of_beq r5, eq_of_beq r6⟩
theorem fair_ok {ns : List Int} (h : Word ns) : outP ns 4 := by
  obtain ⟨t, ht, e0, e1, e2, eh, et⟩ := word_tri h
  have hf := List.all_eq_true.mp fair8 ns (mem_8 h.1 h.2.1)
  have he : evenB ns = true := by
    unfold evenB
    rw [e0, e1, e2]
    simp
  rw [he] at hf
  have hf' : fairB ns = true := by simpa using hf
  obtain ⟨a, ha, hf'⟩ := List.any_eq_true.mp hf'
  obtain ⟨b, hb, hf'⟩ := List.any_eq_true.mp hf'
  have ha4 := List.mem_range.mp ha
  have hb5 := List.mem_range.mp hb
  obtain ⟨g1, g2⟩ := Bool.and_eq_true_iff.mp hf'
  have hk := turn_ok h (a := (a : Int)) (b := (b : Int)) (by omega) (by omega) (by omega) (by omega) (lightOf (a : Int) (b : Int))
  refine ⟨(a : Int), (b : Int), by omega, by omega, by omega, by omega, ?_, ?_⟩
  · rcases Bool.or_eq_true_iff.mp g1 with q | q
    · have : a = 0 := eq_of_beq q
      exact .inl (by omega)
    · have : b ≠ 0 := by simpa using q
      exact .inr (by omega)
  · have hlen := sh_len h.1 (a := (a : Int)) (b := (b : Int)) (by omega) (by omega) (by omega) (by omega)
    have h81 := mem_81 hlen hk.k3
    have hws := and3 (ws81 _ h81 t ht)
    have e := hk.eH
    rw [eh] at e
    unfold fairP
    rw [← e, eq_of_beq hws.1]
    refine decide_eq_true ?_
    rw [eq_of_beq g2, et]
end TL
end

section
open PySem PySem.W PySem.Spec PySem.Calls PyProof.Rows
set_option maxRecDepth 100000
set_option maxHeartbeats 8000000
namespace TL
end TL
namespace TL
theorem slice_names {prog : Program} {w : World} {A : Around} {E : Value → Shared → Prop} {s : Shared} {h₀ : Heap} {L l : Addr} {m : Str → Option Value} {news : List (Addr × Obj)} {value slice : PySem.Expr} {vs : List Value} {j : Nat} {names : List Str} {ta : Tok} {Q : Value → Shared → Prop}
    (F : Fr h₀ L s.heap m) (N : News h₀ L s.heap news) (hm : (l, W.listOf (List.toArray vs) j) ∈ news) (hsp : ∃ us, (slicePick vs.toArray (some 1) none none).toList = us ∧ StrsAre us names) (hz : vs.toArray.size ≤ sizeLine)
    (h : ∀ (D : Addr) us h', Fr h₀ L h' m → News h₀ L h' ((D, W.listOf (List.toArray us) 0) :: news) → (∀ p ∈ news, p.1 < D) → StrsAre us names → Q (.ref D) { s with heap := h' })
    (hs : subscripted slice false (.ref l) (.ref s.heap.objs.size) = operate [.ref s.heap.objs.size, .ref l] (getItem (.ref l) (.ref s.heap.objs.size))) (ht : ∀ r, letTemporaryGo value (.ref l) r = pure ()) :
    wpAny (model prog w) A (subscriptTail value slice (.ref l) (.ref s.heap.objs.size)) Q E { s with heap := s.heap.push { cls := .type "slice", data := .fields #[.int 1 ta, .none, .none] } } := by
  obtain ⟨us, e, hu⟩ := hsp
  exact kmk_slice_lit F N (News.isList N hm) (IsPart.int _ _) IsPart.none e (fun D h' F' N' l1 => h D us h' F' N' l1 hu) hs ht hz
end TL
namespace TL
theorem stride8 (v0 v1 v2 v3 v4 v5 v6 v7 : Value) : (slicePick #[v0, v1, v2, v3, v4, v5, v6, v7] none none (some 2)).toList = [v0, v2, v4, v6] := by with_unfolding_all rfl
theorem slice_stride {prog : Program} {w : World} {A : Around} {E : Value → Shared → Prop} {s : Shared} {h₀ : Heap} {L l : Addr} {m : Str → Option Value} {news : List (Addr × Obj)} {value slice : PySem.Expr} {v0 v1 v2 v3 v4 v5 v6 v7 : Value} {j : Nat} {ta : Tok} {ops : List Value} {Q : Value → Shared → Prop}
    (F : Fr h₀ L s.heap m) (N : News h₀ L s.heap news) (hm : (l, W.listOf #[v0, v1, v2, v3, v4, v5, v6, v7] j) ∈ news)
    (h : ∀ (D : Addr) h', Fr h₀ L h' m → News h₀ L h' ((D, W.listOf (List.toArray [v0, v2, v4, v6]) 0) :: news) → (∀ p ∈ news, p.1 < D) → Q (.ref D) { s with heap := h' })
    (hs : subscripted slice false (.ref l) (.ref s.heap.objs.size) = operate ops (getItem (.ref l) (.ref s.heap.objs.size))) (ht : ∀ r, letTemporaryGo value (.ref l) r = pure ()) :
    wpAny (model prog w) A (subscriptTail value slice (.ref l) (.ref s.heap.objs.size)) Q E { s with heap := s.heap.push { cls := .type "slice", data := .fields #[.none, .none, .int 2 ta] } } := by
  exact kmk_slice3_lit F N (News.isList N hm) IsPart.none IsPart.none (IsPart.int _ _) (by decide) (stride8 ..) h hs ht (by rw [sizeLine_eq]; exact Nat.le_of_ble_eq_true rfl)
end TL
end

section
open PySem PySem.W PySem.Spec PySem.Calls PyProof.Rows
set_option linter.unusedVariables false
set_option maxRecDepth 100000
set_option maxHeartbeats 8000000
namespace TL
theorem loops_in {K WH FA : Addr} {w : World} {mean : ExcName → Option Value} {mg mb : Str → Option Value} {h₀ : Heap} {L : Addr} {fa : Addr} {ccd : Value} {s : Shared} {Q : Flow → Shared → Prop} {E : Value → Shared → Prop} {ns : List Int} {kv : List Value} {u1 u2 u3 y1 y2 y3 : Tok} {HF MO TA W0 W1 : Addr} (rest : List (Addr × Obj)) {mm : Str → Option Value} {o1 o2 : Obj} {v1 v2 : Option Value}
    (hw : Word ns) (B : Below callerA h₀ [] h₀) (F : Fr h₀ L s.heap mm) (X : (hd.heap_39 w.params).In h₀) (N : News h₀ L s.heap ((FA, W.listOf (List.toArray []) 0) :: (L + 1 + 1, o2) :: (L + 1, o1) :: (K, LCg.lst kv) :: (WH, W.listOf #[.ref W0, .ref W1] 0) :: rest)) (T : Top hd.view_39 (looseW hd.view_39 [Str.ofString "Whitespace", Str.ofString "ONE_THIRD", Str.ofString "ONE_SIXTH", Str.ofString "TWO_THIRD"]) mean mg mb h₀)
    (hL : Lw w.params ns kv kv.length 0 u1 u2 u3 y1 y2 y3 K HF MO TA WH W0 W1 ((K, LCg.lst kv) :: (WH, W.listOf #[.ref W0, .ref W1] 0) :: rest) mm FA)
    (ht : @LT.lt Nat _ u1 s.toks ∧ @LT.lt Nat _ u2 s.toks ∧ @LT.lt Nat _ y1 s.toks ∧ @LT.lt Nat _ y2 s.toks)
    (f1 : @Ne Nat FA (L + 1 + 1)) (f2 : @Ne Nat FA (L + 1)) (f3 : ∀ p ∈ (K, LCg.lst kv) :: (WH, W.listOf #[.ref W0, .ref W1] 0) :: rest, p.1 ≠ FA) (f4 : ∀ p ∈ (K, LCg.lst kv) :: (WH, W.listOf #[.ref W0, .ref W1] 0) :: rest, p.1 ≠ L + 1 + 1) (f5 : ∀ p ∈ (K, LCg.lst kv) :: (WH, W.listOf #[.ref W0, .ref W1] 0) :: rest, p.1 ≠ L + 1) (d2 : o2.data = .cell v2) (d1 : o1.data = .cell v1)
    (hE : PassesOwn (model Challenge.rw_tl0040_01.row.prog w) (callerA.deeper (envOfC (Str.ofString "law") lawScope L fa ccd)) (envOfC (Str.ofString "law") lawScope L fa ccd) E)
    (hret : ∀ (m' : Str → Option Value) (h' : Heap) (tk' : Nat), Fr h₀ L h' m' → Q (.ret (.bool true)) { s with heap := h', toks := tk' }) :
    wpAny (model Challenge.rw_tl0040_01.row.prog w) (callerA.deeper (envOfC (Str.ofString "law") lawScope L fa ccd)) (execs (lawBody.drop 12) (envOfC (Str.ofString "law") lawScope L fa ccd)) Q E s :=
  law_loops w mean mg mb h₀ L fa ccd s Q E ns kv kv.length 0 0 u1 u2 u3 y1 y2 y3 K HF MO TA WH W0 W1 FA _ mm o1 o2 v1 v2 hw (fun a b q0 q1 q2 q3 => turn_ok hw q0 q1 q2 q3 _) (fair_ok hw) hL ht f1 f2 f3 f4 f5 d2 d1 B F X N T hE hret
theorem law_tail (w : World) (mean : ExcName → Option Value) (mg mb : Str → Option Value) (h₀ : Heap) (L : Addr) (fa : Addr) (ccd : Value) (m₀ : Str → Option Value) (s : Shared) (Q : Flow → Shared → Prop) (E : Value → Shared → Prop) (k : Int) (z : Str) (t : Tok) (o1 o2 : Obj) (v1 v2 : Option Value) (hz : BeadsOk (signs k) 8 z) (hev : Even3 z) (hk0 : 0 ≤ k) (hk2 : k ≤ 2) : ∀ (B : Below callerA h₀ [] h₀) (F : Fr h₀ L s.heap (fun y => if y = Str.ofString "page" then some (.str (spTxt k z) t) else m₀ y)) (X : (hd.heap_39 w.params).In h₀) (N : News h₀ L s.heap [(L + 1 + 1, o2), (L + 1, o1)])
    (T : Top hd.view_39 (looseW hd.view_39 [Str.ofString "Whitespace", Str.ofString "ONE_THIRD", Str.ofString "ONE_SIXTH", Str.ofString "TWO_THIRD"]) mean mg mb h₀)
    (d2 : o2.data = .cell v2) (d1 : o1.data = .cell v1)
    (hE : PassesOwn (model Challenge.rw_tl0040_01.row.prog w) (callerA.deeper (envOfC (Str.ofString "law") lawScope L fa ccd)) (envOfC (Str.ofString "law") lawScope L fa ccd) E)
    (hret : ∀ (m' : Str → Option Value) (h' : Heap) (tk' : Nat), Fr h₀ L h' m' → Q (.ret (.bool true)) { s with heap := h', toks := tk' }),
    wpAny (model Challenge.rw_tl0040_01.row.prog w) (callerA.deeper (envOfC (Str.ofString "law") lawScope L fa ccd)) (execs (lawBody.drop 6) (envOfC (Str.ofString "law") lawScope L fa ccd)) Q E s := by
  k_fill
  w_top on
  w_on
  k_with_none
  k_with "TL lt0" => (first | (with_reducible assumption) | (refine lt_t ?_ (by with_reducible assumption); k_extra "TL lt0") | (with_reducible exact And.left (by assumption)) | (with_reducible exact And.left (And.right (by assumption))) | (with_reducible exact And.left (And.right (And.right (by assumption)))) | (with_reducible exact And.left (And.right (And.right (And.right (by assumption))))) | (with_reducible exact And.left (And.right (And.right (And.right (And.right (by assumption)))))) | (with_reducible exact And.left (And.right (And.right (And.right (And.right (And.right (by assumption))))))) | (with_reducible exact And.left (And.right (And.right (And.right (And.right (And.right (And.right (by assumption)))))))) | (with_reducible exact And.left (And.right (And.right (And.right (And.right (And.right (And.right (And.right (by assumption))))))))) | (with_reducible exact And.left (And.right (And.right (And.right (And.right (And.right (And.right (And.right (And.right (by assumption)))))))))) | (with_reducible exact And.left (And.right (And.right (And.right (And.right (And.right (And.right (And.right (And.right (And.right (by assumption))))))))))) | (with_reducible exact And.left (And.right (And.right (And.right (And.right (And.right (And.right (And.right (And.right (And.right (And.right (by assumption)))))))))))) | (with_reducible exact And.left (And.right (And.right (And.right (And.right (And.right (And.right (And.right (And.right (And.right (And.right (And.right (by assumption))))))))))))) | (with_reducible exact And.left (And.right (And.right (And.right (And.right (And.right (And.right (And.right (And.right (And.right (And.right (And.right (And.right (by assumption)))))))))))))) | (with_reducible exact And.left (And.right (And.right (And.right (And.right (And.right (And.right (And.right (And.right (And.right (And.right (And.right (And.right (And.right (by assumption))))))))))))))) | (with_reducible exact And.left (And.right (And.right (And.right (And.right (And.right (And.right (And.right (And.right (And.right (And.right (And.right (And.right (And.right (And.right (by assumption)))))))))))))))) | (with_reducible exact And.left (And.right (And.right (And.right (And.right (And.right (And.right (And.right (And.right (And.right (And.right (And.right (And.right (And.right (And.right (And.right (by assumption))))))))))))))))) | (with_reducible exact And.left (And.right (And.right (And.right (And.right (And.right (And.right (And.right (And.right (And.right (And.right (And.right (And.right (And.right (And.right (And.right (And.right (by assumption)))))))))))))))))) | (with_reducible exact And.left (And.right (And.right (And.right (And.right (And.right (And.right (And.right (And.right (And.right (And.right (And.right (And.right (And.right (And.right (And.right (And.right (And.right (by assumption))))))))))))))))))) | (with_reducible exact And.left (And.right (And.right (And.right (And.right (And.right (And.right (And.right (And.right (And.right (And.right (And.right (And.right (And.right (And.right (And.right (And.right (And.right (And.right (by assumption)))))))))))))))))))) | (with_reducible exact And.left (And.right (And.right (And.right (And.right (And.right (And.right (And.right (And.right (And.right (And.right (And.right (And.right (And.right (And.right (And.right (And.right (And.right (And.right (And.right (by assumption))))))))))))))))))))) | (with_reducible exact And.left (And.right (And.right (And.right (And.right (And.right (And.right (And.right (And.right (And.right (And.right (And.right (And.right (And.right (And.right (And.right (And.right (And.right (And.right (And.right (And.right (by assumption)))))))))))))))))))))) | (with_reducible exact And.left (And.right (And.right (And.right (And.right (And.right (And.right (And.right (And.right (And.right (And.right (And.right (And.right (And.right (And.right (And.right (And.right (And.right (And.right (And.right (And.right (And.right (by assumption))))))))))))))))))))))) | (with_reducible exact And.left (And.right (And.right (And.right (And.right (And.right (And.right (And.right (And.right (And.right (And.right (And.right (And.right (And.right (And.right (And.right (And.right (And.right (And.right (And.right (And.right (And.right (And.right (by assumption)))))))))))))))))))))))) | (with_reducible exact And.left (And.right (And.right (And.right (And.right (And.right (And.right (And.right (And.right (And.right (And.right (And.right (And.right (And.right (And.right (And.right (And.right (And.right (And.right (And.right (And.right (And.right (And.right (And.right (by assumption))))))))))))))))))))))))) | (with_reducible exact And.right (by assumption)) | (with_reducible exact And.right (And.right (by assumption))) | (with_reducible exact And.right (And.right (And.right (by assumption)))) | (with_reducible exact And.right (And.right (And.right (And.right (by assumption))))) | (with_reducible exact And.right (And.right (And.right (And.right (And.right (by assumption)))))) | (with_reducible exact And.right (And.right (And.right (And.right (And.right (And.right (by assumption))))))) | (with_reducible exact And.right (And.right (And.right (And.right (And.right (And.right (And.right (by assumption)))))))) | (with_reducible exact And.right (And.right (And.right (And.right (And.right (And.right (And.right (And.right (by assumption))))))))) | (with_reducible exact And.right (And.right (And.right (And.right (And.right (And.right (And.right (And.right (And.right (by assumption)))))))))) | (with_reducible exact And.right (And.right (And.right (And.right (And.right (And.right (And.right (And.right (And.right (And.right (by assumption))))))))))) | (with_reducible exact And.right (And.right (And.right (And.right (And.right (And.right (And.right (And.right (And.right (And.right (And.right (by assumption)))))))))))) | (with_reducible exact And.right (And.right (And.right (And.right (And.right (And.right (And.right (And.right (And.right (And.right (And.right (And.right (by assumption))))))))))))) | (with_reducible exact And.right (And.right (And.right (And.right (And.right (And.right (And.right (And.right (And.right (And.right (And.right (And.right (And.right (by assumption)))))))))))))) | (with_reducible exact And.right (And.right (And.right (And.right (And.right (And.right (And.right (And.right (And.right (And.right (And.right (And.right (And.right (And.right (by assumption))))))))))))))) | (with_reducible exact And.right (And.right (And.right (And.right (And.right (And.right (And.right (And.right (And.right (And.right (And.right (And.right (And.right (And.right (And.right (by assumption)))))))))))))))) | (with_reducible exact And.right (And.right (And.right (And.right (And.right (And.right (And.right (And.right (And.right (And.right (And.right (And.right (And.right (And.right (And.right (And.right (by assumption))))))))))))))))) | (with_reducible exact And.right (And.right (And.right (And.right (And.right (And.right (And.right (And.right (And.right (And.right (And.right (And.right (And.right (And.right (And.right (And.right (And.right (by assumption)))))))))))))))))) | (with_reducible exact And.right (And.right (And.right (And.right (And.right (And.right (And.right (And.right (And.right (And.right (And.right (And.right (And.right (And.right (And.right (And.right (And.right (And.right (by assumption))))))))))))))))))) | (with_reducible exact And.right (And.right (And.right (And.right (And.right (And.right (And.right (And.right (And.right (And.right (And.right (And.right (And.right (And.right (And.right (And.right (And.right (And.right (And.right (by assumption)))))))))))))))))))) | (with_reducible exact And.right (And.right (And.right (And.right (And.right (And.right (And.right (And.right (And.right (And.right (And.right (And.right (And.right (And.right (And.right (And.right (And.right (And.right (And.right (And.right (by assumption))))))))))))))))))))) | (with_reducible exact And.right (And.right (And.right (And.right (And.right (And.right (And.right (And.right (And.right (And.right (And.right (And.right (And.right (And.right (And.right (And.right (And.right (And.right (And.right (And.right (And.right (by assumption)))))))))))))))))))))) | (with_reducible exact And.right (And.right (And.right (And.right (And.right (And.right (And.right (And.right (And.right (And.right (And.right (And.right (And.right (And.right (And.right (And.right (And.right (And.right (And.right (And.right (And.right (And.right (by assumption))))))))))))))))))))))) | (with_reducible exact And.right (And.right (And.right (And.right (And.right (And.right (And.right (And.right (And.right (And.right (And.right (And.right (And.right (And.right (And.right (And.right (And.right (And.right (And.right (And.right (And.right (And.right (And.right (by assumption)))))))))))))))))))))))))
  k_with "TL ne0" => (refine neN ?_; (try dsimp only); first | (with_reducible assumption) | (refine Ne.symm ?_; with_reducible assumption) | (with_reducible exact And.left (by assumption)) | (with_reducible exact And.left (And.right (by assumption))) | (with_reducible exact And.left (And.right (And.right (by assumption)))) | (with_reducible exact And.left (And.right (And.right (And.right (by assumption))))) | (with_reducible exact And.left (And.right (And.right (And.right (And.right (by assumption)))))) | (with_reducible exact And.left (And.right (And.right (And.right (And.right (And.right (by assumption))))))) | (with_reducible exact Ne.symm <| And.left (by assumption)) | (with_reducible exact Ne.symm <| And.left (And.right (by assumption))) | (with_reducible exact Ne.symm <| And.left (And.right (And.right (by assumption)))) | (with_reducible exact Ne.symm <| And.left (And.right (And.right (And.right (by assumption))))) | (with_reducible exact Ne.symm <| And.left (And.right (And.right (And.right (And.right (by assumption)))))) | (with_reducible exact Ne.symm <| And.left (And.right (And.right (And.right (And.right (And.right (by assumption))))))) | (refine ne_gt ?_; k_extra "TL lt0") | (refine ne_lt ?_; k_extra "TL lt0"))
  k_with "TL le" => (first | (with_reducible assumption) | (with_reducible exact Nat.le_refl _) | (with_reducible exact Nat.succ_le_of_lt (by assumption)) | (with_reducible exact Nat.le_of_lt (by assumption)) | (with_reducible refine le_ss ?_; k_extra "TL le") | ((fail_if_success (with_reducible refine le_ss ?_)); with_reducible refine le_s ?_; k_extra "TL le") | ((fail_if_success (with_reducible refine le_s ?_)); refine le_t ?_ (by with_reducible assumption); k_extra "TL le") | ((fail_if_success (with_reducible refine le_s ?_)); refine le_t ?_ (Nat.le_of_lt (by with_reducible assumption)); k_extra "TL le"))
  k_with "TL@ call ref" => (k_extra "TL call")
  k_with "TL@ call builtin:str.split nil" => (k_extra "TL split")
  k_with "TL@ call builtin:sorted" => (k_extra "TL sorted")
  k_with "TL@ subscriptTail Name Slice ref ref" => (k_extra "TL slice")
  k_with "TL@ eval ListComp" => (k_extra "TL comp")
  k_with "TL@ execs cons For cons" => (k_extra "TL for")
  k_with "TL@ execs cons" => ((k_here; (with_reducible refine gen_add ?_); intro tkq9 htkq9; (try dsimp only at htkq9); (try dsimp only)))
  k_with "TL@ execs nil" => ((k_here; (with_reducible refine gen_add ?_); intro tkq9 htkq9; (try dsimp only at htkq9); (try dsimp only)))
  k_with "TL@ exec Assign cons ListComp" => ((k_here; (with_reducible show wpAny _ _ (exec (Stmt.Assign [Expr.Name _ _] _ _) _) _ _ _); walk_at "exec Assign"))
  k_with "TL@ CompEnd int" => (k_extra "TL end")
  k_with "TL@ call builtin:len cons nil" => (k_extra "TL len")
  intro B F X N T d2 d1 hE hret
  have hw := kinds_word hz hev
  have hh := half_ok hw
  dsimp only [lawScope, fnScope, lawBody, lawStmt, Challenge.pw_tl0040_01, fnBody, List.getLastD, List.getLast?, List.getLast, List.drop]
  k_with "TL split" => (k_here; k_dflt ((try dsimp only [List.nil_append, List.cons_append]); refine' split_my ?spF ?spN hz ?spn ?_; (case spF => k_asm); (case spN => k_asm); (case spn => decide)); intro D' vs' h' tk' hsp' hsz' F' N' l1; (try k_lt l1); (try k_sweep))
  k_with "TL slice" => (k_here; k_dflt (refine' slice_names ?slF ?slN ?sll hsp' hsz' ?_ ?sls ?slt; (case slF => k_asm); (case slN => k_asm); (case sll => k_mem); (case sls => with_unfolding_all rfl); (case slt => kmk_pure)); intro D' us' h' F' N' l1 hus'; (try k_lt l1); (try k_sweep))
  k_with "TL comp" => (k_dflt (refine LCg.ListComp_U (F₀ := by k_asm) (by with_unfolding_all rfl) (by decide) (by rfl) (by decide) (by rfl) ?_))
  k_with "TL end" => (k_here; k_dflt (refine comp_end (by k_asm) (by k_asm) (fun _ h => h) (by assumption) (by first | assumption | trivial) ⟨c, _, hc, (by rw [nm_len hk0 hk2 (sg_in hz hc)])⟩))
  k_with "TL sorted" => (k_here; k_dflt (refine' kso_sorted8 ?soF ?soN ?som hys hw ?_; (case soF => k_asm); (case soN => k_asm); (case som => k_mem)); intro D' n0 n1 n2 n3 n4 n5 n6 n7 q0 q1 q2 q3 q4 q5 q6 q7 c' h' F' N' l1 hI4; (try k_lt l1); (try k_sweep))
  k_with "TL len" => (k_dflt (refine' len_str ?hfit ?_; (case hfit => have := nm_short k c; omega)))
  k_with "TL slice" => (k_here; k_dflt (refine' slice_stride ?slF ?slN ?sll ?_ ?sls ?slt; (case slF => k_asm); (case slN => k_asm); (case sll => k_mem); (case sls => with_unfolding_all rfl); (case slt => kmk_pure)); intro D' h' F' N' l1; (try k_lt l1); (try k_sweep))
  k_with "CompSrc BinOp nil ref" => (k_dflt (refine LCg.CompSrc.ledger (by rfl) (by k_asm) (by k_asm) (by k_mem) (by (rw [List.size_toArray, StrsAre.length (by assumption), List.length_map, Array.length_toList, hz.1, PySem.sizeLine_eq]; omega)) ?_; intro g'; refine comp_vals (fun i y => ∃ c t, z.cps[i]? = some c ∧ y = .int (kindAt c) t) (fun i v I oI C oC D₂ m₂ ys h tk E' hin hP hC hx F' N' off' hS' ne' => ?_) (.inr ⟨_, by k_mem, rfl, _, rfl⟩) (fun ys hyl hv => ?_); obtain ⟨c, t', hc, rfl⟩ := names_at hus' (by simpa using hP); rotate_left; (have hys := kinds_are (by rw [hyl, List.size_toArray, StrsAre.length hus', List.length_map, Array.length_toList]) hv); rotate_left))
  k_with "TL call" => (k_dflt ((try dsimp only [List.nil_append, List.cons_append, List.append_nil]); refine' use_lead (ns := 0 :: halfOf (kindsOf z)) (behind := 0) ?u1 ?u2 ?u3 ?u4 ?u5 ?u6 ?um0 ?um1 ?um2 ?um3 ?um4 ?u7 ?u8 ?_; (case u1 => k_asm); (case u2 => k_asm); (case u3 => k_asm); (case u4 => k_asm); (case u5 => k_asm); (case u6 => first | exact rfl | assumption); (case um0 => k_mem); (case um1 => exact .cons _ _ (by assumption)); (case um2 => (rw [List.length_cons, hh.1]; decide)); (case um3 => (intro x hx; rcases List.mem_cons.mp hx with rfl | hx; exact (by decide); exact hh.2 x hx)); (case um4 => decide); (case u7 => first | ktr_room | decide); (case u8 => first | ktr_units | decide); k_whole); intro tqT xT dT NT TT qT sbT k1T k2T k3T k4T k5T tnT ttT tbT h3 tk3 F3 N3 hIT l1 l2 l3 l4; (try dsimp only); (try k_lt l1); (try k_sweep))
  k_with "TL call" => (k_dflt ((try dsimp only [List.nil_append, List.cons_append, List.append_nil]); refine' use_lead (ns := halfOf (kindsOf z)) (behind := 1) ?u1 ?u2 ?u3 ?u4 ?u5 ?u6 ?um0 ?um1 ?um2 ?um3 ?um4 ?u7 ?u8 ?_; (case u1 => k_asm); (case u2 => k_asm); (case u3 => k_asm); (case u4 => k_asm); (case u5 => k_asm); (case u6 => first | exact rfl | assumption); (case um0 => k_mem); (case um1 => assumption); (case um2 => exact Nat.le_trans (Nat.le_of_eq hh.1) (by decide)); (case um3 => exact hh.2); (case um4 => decide); (case u7 => first | ktr_room | decide); (case u8 => first | ktr_units | decide); k_whole); intro tqM xM dM NM TM qM sbM k1M k2M k3M k4M k5M tnM ttM tbM h3 tk3 F3 N3 hIM l1 l2 l3 l4; (try dsimp only); (try k_lt l1); (try k_sweep))
  k_with "TL call" => (k_dflt ((try dsimp only [List.nil_append, List.cons_append, List.append_nil]); refine' use_lead (ns := halfOf (kindsOf z)) (behind := 0) ?u1 ?u2 ?u3 ?u4 ?u5 ?u6 ?um0 ?um1 ?um2 ?um3 ?um4 ?u7 ?u8 ?_; (case u1 => k_asm); (case u2 => k_asm); (case u3 => k_asm); (case u4 => k_asm); (case u5 => k_asm); (case u6 => first | exact rfl | assumption); (case um0 => k_mem); (case um1 => assumption); (case um2 => exact Nat.le_trans (Nat.le_of_eq hh.1) (by decide)); (case um3 => exact hh.2); (case um4 => decide); (case u7 => first | ktr_room | decide); (case u8 => first | ktr_units | decide); k_whole); intro tqH xH dH NH TH qH sbH k1H k2H k3H k4H k5H tnH ttH tbH h3 tk3 F3 N3 hIH l1 l2 l3 l4; (try dsimp only); (try k_lt l1); (try k_sweep))
  k_with "TL call" => (k_dflt ((try dsimp only [List.nil_append, List.cons_append, List.append_nil]); refine' use_seen (light := false) ?u1 ?u2 ?u3 ?u4 ?u5 ?u6 ?um0 ?um1 ?um2 ?um3 ?u7 ?u8 ?_; (case u1 => k_asm); (case u2 => k_asm); (case u3 => k_asm); (case u4 => k_asm); (case u5 => k_asm); (case u6 => first | exact rfl | assumption); (case um0 => k_mem); (case um1 => assumption); (case um2 => exact Nat.le_of_eq hw.1); (case um3 => exact hueW' hw _); (case u7 => first | ktr_room | decide); (case u8 => first | ktr_units | decide); k_whole); intro W0 u1 u2 u3 h3 tk3 F3 N3 l1 hT0; (try dsimp only); (try dsimp only at hT0); (try k_lt l1); (try k_sweep))
  k_with "TL call" => (k_dflt ((try dsimp only [List.nil_append, List.cons_append, List.append_nil]); refine' use_seen (light := true) ?u1 ?u2 ?u3 ?u4 ?u5 ?u6 ?um0 ?um1 ?um2 ?um3 ?u7 ?u8 ?_; (case u1 => k_asm); (case u2 => k_asm); (case u3 => k_asm); (case u4 => k_asm); (case u5 => k_asm); (case u6 => first | exact rfl | assumption); (case um0 => k_mem); (case um1 => assumption); (case um2 => exact Nat.le_of_eq hw.1); (case um3 => exact hueW' hw _); (case u7 => first | ktr_room | decide); (case u8 => first | ktr_units | decide); k_whole); intro W1 y1 y2 y3 h3 tk3 F3 N3 l1 hT1; (try dsimp only); (try dsimp only at hT1); (try k_lt l1); (try k_sweep))
  k_with "TL for" => (k_here; k_dflt (refine' loops_in [(xH, instObj 83 dH), (dH, dictOf (wsEs w.params (leadTxt (halfOf (kindsOf z)) 0) tqH (wsRun (leadCodes (halfOf (kindsOf z)) 0)) NH sbH k1H k2H k3H k4H k5H tnH ttH) 5), (NH, tupO #[.ref TH, .int (wsRun (leadCodes (halfOf (kindsOf z)) 0)).b tbH]), (TH, tupO qH.toArray), (xM, instObj 83 dM), (dM, dictOf (wsEs w.params (leadTxt (halfOf (kindsOf z)) 1) tqM (wsRun (leadCodes (halfOf (kindsOf z)) 1)) NM sbM k1M k2M k3M k4M k5M tnM ttM) 5), (NM, tupO #[.ref TM, .int (wsRun (leadCodes (halfOf (kindsOf z)) 1)).b tbM]), (TM, tupO qM.toArray), (xT, instObj 83 dT), (dT, dictOf (wsEs w.params (leadTxt (0 :: halfOf (kindsOf z)) 0) tqT (wsRun (leadCodes (0 :: halfOf (kindsOf z)) 0)) NT sbT k1T k2T k3T k4T k5T tnT ttT) 5), (NT, tupO #[.ref TT, .int (wsRun (leadCodes (0 :: halfOf (kindsOf z)) 0)).b tbT]), (TT, tupO qT.toArray), (W0, tup3 (hueOf (kindsOf z) false) u1 u2 u3), (W1, tup3 (hueOf (kindsOf z) true) y1 y2 y3)] hw B ?fF X ?fN T ?fL ?ft ?f1 ?f2 ?f3 ?f4 ?f5 d2 d1 hE hret; (case fF => k_asm); (case fL => exact ⟨hys, .head _, ⟨dH, NH, TH, qH, _, _, sbH, k1H, k2H, k3H, k4H, k5H, tnH, ttH, tbH, by k_mem, by k_mem, by k_mem, by k_mem, hIH⟩, ⟨dM, NM, TM, qM, _, _, sbM, k1M, k2M, k3M, k4M, k5M, tnM, ttM, tbM, by k_mem, by k_mem, by k_mem, by k_mem, hIM⟩, ⟨dT, NT, TT, qT, _, _, sbT, k1T, k2T, k3T, k4T, k5T, tnT, ttT, tbT, by k_mem, by k_mem, by k_mem, by k_mem, hIT⟩, by k_mem, by k_mem, by k_mem, ⟨hT0.2.2.2.2.1, hT0.2.2.2.2.2.1, hT0.2.2.2.2.2.2, hT1.2.2.2.2.1, hT1.2.2.2.2.2.1, hT1.2.2.2.2.2.2⟩, rfl, rfl, rfl, rfl, rfl, rfl⟩); (case fN => exact news_sub (by k_asm) (by kcf_all)); (case ft => ((try dsimp only); (have a1 := hT0.2.1); (have a2 := hT0.2.2.2.1); (have a3 := hT1.2.1); (have a4 := hT1.2.2.2.1); (have a5 := hT1.1); exact ⟨by (first | (refine lt_le ?_; k_extra "TL le") | omega), by (first | (refine lt_le ?_; k_extra "TL le") | omega), by (first | (refine lt_le ?_; k_extra "TL le") | omega), by (first | (refine lt_le ?_; k_extra "TL le") | omega)⟩)); (case f1 => (show @Ne Nat _ _; k_ne)); (case f2 => (show @Ne Nat _ _; k_ne)); (case f3 => (intro p hp; simp only [List.mem_cons, List.not_mem_nil, or_false] at hp; rcases hp with rfl | rfl | rfl | rfl | rfl | rfl | rfl | rfl | rfl | rfl | rfl | rfl | rfl | rfl | rfl | rfl <;> (show @Ne Nat _ _; k_ne))); (case f4 => (intro p hp; simp only [List.mem_cons, List.not_mem_nil, or_false] at hp; rcases hp with rfl | rfl | rfl | rfl | rfl | rfl | rfl | rfl | rfl | rfl | rfl | rfl | rfl | rfl | rfl | rfl <;> (show @Ne Nat _ _; k_ne))); (case f5 => (intro p hp; simp only [List.mem_cons, List.not_mem_nil, or_false] at hp; rcases hp with rfl | rfl | rfl | rfl | rfl | rfl | rfl | rfl | rfl | rfl | rfl | rfl | rfl | rfl | rfl | rfl <;> (show @Ne Nat _ _; k_ne)))))
  w_strict (k_steps)
end TL
end

section
open PySem PySem.W PySem.Spec PySem.Calls PyProof.Rows
set_option maxRecDepth 100000
set_option maxHeartbeats 8000000
namespace TL
def heapsOf (w7 : List Int) : List Int := List.map (fun k' => k'.fmod (10 ^ Int.toNat 6)) (List.take (Int.toNat 4) w7) ++ List.drop (↑(List.map (fun k' => k'.fmod (10 ^ Int.toNat 6)) (List.take (Int.toNat 4) w7)).length : Int).toNat [1500, 3913, 6658, 8474]
theorem heaps_len (w7 : List Int) : (heapsOf w7).length = 4 := by
  unfold heapsOf
  simp only [List.length_append, List.length_map, List.length_take, List.length_drop, List.length_cons, List.length_nil]
  omega
theorem heaps_in (w7 : List Int) : ∀ x ∈ heapsOf w7, 0 ≤ x ∧ x < 1000000 := by
  intro x hx
  unfold heapsOf at hx
  rcases List.mem_append.mp hx with hx | hx
  · obtain ⟨y, _, rfl⟩ := List.mem_map.mp hx
    exact ⟨Int.fmod_nonneg_of_pos _ (by decide), Int.fmod_lt_of_pos _ (by decide)⟩
  · have := List.mem_of_mem_drop hx
    simp at this
    omega
theorem news_two {h₀ h : Heap} {L a b : Addr} {o1 o2 : Obj} {all : List (Addr × Obj)} (N : News h₀ L h all) (h2 : (a, o2) ∈ all) (h1 : (b, o1) ∈ all) : News h₀ L h [(a, o2), (b, o1)] := by
  intro p hp
  rcases List.mem_cons.mp hp with rfl | hp
  · exact N _ h2
  · rw [List.mem_singleton.mp hp]; exact N _ h1
theorem tail_in {w : World} {mean : ExcName → Option Value} {mg mb : Str → Option Value} {h₀ : Heap} {L : Addr} {fa : Addr} {ccd : Value} {m₀ : Str → Option Value} {s : Shared} {Q : Flow → Shared → Prop} {E : Value → Shared → Prop} {k : Int} {z : Str} {t : Tok} {o1 o2 : Obj} {v1 v2 : Option Value} (hz : BeadsOk (signs k) 8 z) (hev : Even3 z) (hk0 : 0 ≤ k) (hk2 : k ≤ 2)
    (B : Below callerA h₀ [] h₀) (F : Fr h₀ L s.heap (fun y => if y = Str.ofString "page" then some (.str (spTxt k z) t) else m₀ y)) (X : (hd.heap_39 w.params).In h₀) (N : News h₀ L s.heap [(L + 1 + 1, o2), (L + 1, o1)])
    (T : Top hd.view_39 (looseW hd.view_39 [Str.ofString "Whitespace", Str.ofString "ONE_THIRD", Str.ofString "ONE_SIXTH", Str.ofString "TWO_THIRD"]) mean mg mb h₀)
    (d2 : o2.data = .cell v2) (d1 : o1.data = .cell v1) (hE : PassesOwn (model Challenge.rw_tl0040_01.row.prog w) (callerA.deeper (envOfC (Str.ofString "law") lawScope L fa ccd)) (envOfC (Str.ofString "law") lawScope L fa ccd) E)
    (hret : ∀ (m' : Str → Option Value) (h' : Heap) (tk' : Nat), Fr h₀ L h' m' → Q (.ret (.bool true)) { s with heap := h', toks := tk' }) :
    wpAny (model Challenge.rw_tl0040_01.row.prog w) (callerA.deeper (envOfC (Str.ofString "law") lawScope L fa ccd)) (execs (lawBody.drop 6) (envOfC (Str.ofString "law") lawScope L fa ccd)) Q E s :=
  law_tail w mean mg mb h₀ L fa ccd m₀ s Q E k z t o1 o2 v1 v2 hz hev hk0 hk2 B F X N T d2 d1 hE hret
theorem walk0 : second hd := (by
  unfold second
  w_top on
  w_on
  k_with_none
  k_with "TL lt0" => (first | (with_reducible assumption) | (refine lt_t ?_ (by with_reducible assumption); k_extra "TL lt0") | (with_reducible exact And.left (by assumption)) | (with_reducible exact And.left (And.right (by assumption))) | (with_reducible exact And.left (And.right (And.right (by assumption)))) | (with_reducible exact And.left (And.right (And.right (And.right (by assumption))))) | (with_reducible exact And.left (And.right (And.right (And.right (And.right (by assumption)))))) | (with_reducible exact And.left (And.right (And.right (And.right (And.right (And.right (by assumption))))))) | (with_reducible exact And.left (And.right (And.right (And.right (And.right (And.right (And.right (by assumption)))))))) | (with_reducible exact And.left (And.right (And.right (And.right (And.right (And.right (And.right (And.right (by assumption))))))))) | (with_reducible exact And.left (And.right (And.right (And.right (And.right (And.right (And.right (And.right (And.right (by assumption)))))))))) | (with_reducible exact And.left (And.right (And.right (And.right (And.right (And.right (And.right (And.right (And.right (And.right (by assumption))))))))))) | (with_reducible exact And.left (And.right (And.right (And.right (And.right (And.right (And.right (And.right (And.right (And.right (And.right (by assumption)))))))))))) | (with_reducible exact And.left (And.right (And.right (And.right (And.right (And.right (And.right (And.right (And.right (And.right (And.right (And.right (by assumption))))))))))))) | (with_reducible exact And.left (And.right (And.right (And.right (And.right (And.right (And.right (And.right (And.right (And.right (And.right (And.right (And.right (by assumption)))))))))))))) | (with_reducible exact And.left (And.right (And.right (And.right (And.right (And.right (And.right (And.right (And.right (And.right (And.right (And.right (And.right (And.right (by assumption))))))))))))))) | (with_reducible exact And.left (And.right (And.right (And.right (And.right (And.right (And.right (And.right (And.right (And.right (And.right (And.right (And.right (And.right (And.right (by assumption)))))))))))))))) | (with_reducible exact And.left (And.right (And.right (And.right (And.right (And.right (And.right (And.right (And.right (And.right (And.right (And.right (And.right (And.right (And.right (And.right (by assumption))))))))))))))))) | (with_reducible exact And.left (And.right (And.right (And.right (And.right (And.right (And.right (And.right (And.right (And.right (And.right (And.right (And.right (And.right (And.right (And.right (And.right (by assumption)))))))))))))))))) | (with_reducible exact And.left (And.right (And.right (And.right (And.right (And.right (And.right (And.right (And.right (And.right (And.right (And.right (And.right (And.right (And.right (And.right (And.right (And.right (by assumption))))))))))))))))))) | (with_reducible exact And.left (And.right (And.right (And.right (And.right (And.right (And.right (And.right (And.right (And.right (And.right (And.right (And.right (And.right (And.right (And.right (And.right (And.right (And.right (by assumption)))))))))))))))))))) | (with_reducible exact And.left (And.right (And.right (And.right (And.right (And.right (And.right (And.right (And.right (And.right (And.right (And.right (And.right (And.right (And.right (And.right (And.right (And.right (And.right (And.right (by assumption))))))))))))))))))))) | (with_reducible exact And.left (And.right (And.right (And.right (And.right (And.right (And.right (And.right (And.right (And.right (And.right (And.right (And.right (And.right (And.right (And.right (And.right (And.right (And.right (And.right (And.right (by assumption)))))))))))))))))))))) | (with_reducible exact And.left (And.right (And.right (And.right (And.right (And.right (And.right (And.right (And.right (And.right (And.right (And.right (And.right (And.right (And.right (And.right (And.right (And.right (And.right (And.right (And.right (And.right (by assumption))))))))))))))))))))))) | (with_reducible exact And.left (And.right (And.right (And.right (And.right (And.right (And.right (And.right (And.right (And.right (And.right (And.right (And.right (And.right (And.right (And.right (And.right (And.right (And.right (And.right (And.right (And.right (And.right (by assumption)))))))))))))))))))))))) | (with_reducible exact And.left (And.right (And.right (And.right (And.right (And.right (And.right (And.right (And.right (And.right (And.right (And.right (And.right (And.right (And.right (And.right (And.right (And.right (And.right (And.right (And.right (And.right (And.right (And.right (by assumption))))))))))))))))))))))))) | (with_reducible exact And.right (by assumption)) | (with_reducible exact And.right (And.right (by assumption))) | (with_reducible exact And.right (And.right (And.right (by assumption)))) | (with_reducible exact And.right (And.right (And.right (And.right (by assumption))))) | (with_reducible exact And.right (And.right (And.right (And.right (And.right (by assumption)))))) | (with_reducible exact And.right (And.right (And.right (And.right (And.right (And.right (by assumption))))))) | (with_reducible exact And.right (And.right (And.right (And.right (And.right (And.right (And.right (by assumption)))))))) | (with_reducible exact And.right (And.right (And.right (And.right (And.right (And.right (And.right (And.right (by assumption))))))))) | (with_reducible exact And.right (And.right (And.right (And.right (And.right (And.right (And.right (And.right (And.right (by assumption)))))))))) | (with_reducible exact And.right (And.right (And.right (And.right (And.right (And.right (And.right (And.right (And.right (And.right (by assumption))))))))))) | (with_reducible exact And.right (And.right (And.right (And.right (And.right (And.right (And.right (And.right (And.right (And.right (And.right (by assumption)))))))))))) | (with_reducible exact And.right (And.right (And.right (And.right (And.right (And.right (And.right (And.right (And.right (And.right (And.right (And.right (by assumption))))))))))))) | (with_reducible exact And.right (And.right (And.right (And.right (And.right (And.right (And.right (And.right (And.right (And.right (And.right (And.right (And.right (by assumption)))))))))))))) | (with_reducible exact And.right (And.right (And.right (And.right (And.right (And.right (And.right (And.right (And.right (And.right (And.right (And.right (And.right (And.right (by assumption))))))))))))))) | (with_reducible exact And.right (And.right (And.right (And.right (And.right (And.right (And.right (And.right (And.right (And.right (And.right (And.right (And.right (And.right (And.right (by assumption)))))))))))))))) | (with_reducible exact And.right (And.right (And.right (And.right (And.right (And.right (And.right (And.right (And.right (And.right (And.right (And.right (And.right (And.right (And.right (And.right (by assumption))))))))))))))))) | (with_reducible exact And.right (And.right (And.right (And.right (And.right (And.right (And.right (And.right (And.right (And.right (And.right (And.right (And.right (And.right (And.right (And.right (And.right (by assumption)))))))))))))))))) | (with_reducible exact And.right (And.right (And.right (And.right (And.right (And.right (And.right (And.right (And.right (And.right (And.right (And.right (And.right (And.right (And.right (And.right (And.right (And.right (by assumption))))))))))))))))))) | (with_reducible exact And.right (And.right (And.right (And.right (And.right (And.right (And.right (And.right (And.right (And.right (And.right (And.right (And.right (And.right (And.right (And.right (And.right (And.right (And.right (by assumption)))))))))))))))))))) | (with_reducible exact And.right (And.right (And.right (And.right (And.right (And.right (And.right (And.right (And.right (And.right (And.right (And.right (And.right (And.right (And.right (And.right (And.right (And.right (And.right (And.right (by assumption))))))))))))))))))))) | (with_reducible exact And.right (And.right (And.right (And.right (And.right (And.right (And.right (And.right (And.right (And.right (And.right (And.right (And.right (And.right (And.right (And.right (And.right (And.right (And.right (And.right (And.right (by assumption)))))))))))))))))))))) | (with_reducible exact And.right (And.right (And.right (And.right (And.right (And.right (And.right (And.right (And.right (And.right (And.right (And.right (And.right (And.right (And.right (And.right (And.right (And.right (And.right (And.right (And.right (And.right (by assumption))))))))))))))))))))))) | (with_reducible exact And.right (And.right (And.right (And.right (And.right (And.right (And.right (And.right (And.right (And.right (And.right (And.right (And.right (And.right (And.right (And.right (And.right (And.right (And.right (And.right (And.right (And.right (And.right (by assumption)))))))))))))))))))))))))
  k_with "TL ne0" => (refine neN ?_; (try dsimp only); first | (with_reducible assumption) | (refine Ne.symm ?_; with_reducible assumption) | (with_reducible exact And.left (by assumption)) | (with_reducible exact And.left (And.right (by assumption))) | (with_reducible exact And.left (And.right (And.right (by assumption)))) | (with_reducible exact And.left (And.right (And.right (And.right (by assumption))))) | (with_reducible exact And.left (And.right (And.right (And.right (And.right (by assumption)))))) | (with_reducible exact And.left (And.right (And.right (And.right (And.right (And.right (by assumption))))))) | (with_reducible exact Ne.symm <| And.left (by assumption)) | (with_reducible exact Ne.symm <| And.left (And.right (by assumption))) | (with_reducible exact Ne.symm <| And.left (And.right (And.right (by assumption)))) | (with_reducible exact Ne.symm <| And.left (And.right (And.right (And.right (by assumption))))) | (with_reducible exact Ne.symm <| And.left (And.right (And.right (And.right (And.right (by assumption)))))) | (with_reducible exact Ne.symm <| And.left (And.right (And.right (And.right (And.right (And.right (by assumption))))))) | (refine ne_gt ?_; k_extra "TL lt0") | (refine ne_lt ?_; k_extra "TL lt0"))
  k_with "TL le" => (first | (with_reducible assumption) | (with_reducible exact Nat.le_refl _) | (with_reducible exact Nat.succ_le_of_lt (by assumption)) | (with_reducible exact Nat.le_of_lt (by assumption)) | (with_reducible refine le_ss ?_; k_extra "TL le") | ((fail_if_success (with_reducible refine le_ss ?_)); with_reducible refine le_s ?_; k_extra "TL le") | ((fail_if_success (with_reducible refine le_s ?_)); refine le_t ?_ (by with_reducible assumption); k_extra "TL le") | ((fail_if_success (with_reducible refine le_s ?_)); refine le_t ?_ (Nat.le_of_lt (by with_reducible assumption)); k_extra "TL le"))
  k_with "TL@ subscriptTail List cons Slice" => ((k_here; k_dflt (refine kba_turn (value' := PySem.Expr.Name (PySem.Str.ofString "_") ⟨0, 0, 0, 0⟩) (fun _ => rfl) ?_)))
  k_with "TL@ call ref" => (k_extra "TL call")
  k_with "TL@ subscriptTail Name Slice ref ref" => (k_extra "TL slice")
  k_with "TL@ execs cons Assign cons" => (k_extra "TL cut")
  k_with "TL slice" => (k_here; k_dflt (refine' kmk_slice_ints ?slF ?slN ?sll ?slp ?slq ?sli ?slm ?slc ?_ ?sls ?slt ?slz; (case slF => k_asm); (case slN => k_asm); (case sll => kmk_list); (case slp => kmk_part); (case slq => kmk_part); (case sli => first | assumption | exact .cons _ _ (.cons _ _ (.cons _ _ (.cons _ _ .nil)))); (case slm => first | exact kmk_upto (by assumption) (by decide) | exact kmk_from (.cons _ _ (.cons _ _ (.cons _ _ (.cons _ _ .nil)))) (by omega)); (case slc => exact rfl); (case sls => with_unfolding_all rfl); (case slt => kmk_pure); (case slz => kmk_size)); intro D' ws' h' F' N' l1 hI' hC' hL'; (try k_lt l1); (try k_sweep))
  k_with "TL call" => (k_dflt ((try dsimp only [List.nil_append, List.cons_append, List.append_nil]); refine' use_spelled ?u1 ?u2 ?u3 ?u4 ?u5 ?u6 ?um0 ?um1 ?um2 ?u7 ?u8 ?_; (case u1 => k_asm); (case u2 => k_asm); (case u3 => k_asm); (case u4 => k_asm); (case u5 => k_asm); (case u6 => first | exact rfl | assumption); (case um0 => assumption); (case um1 => exact fmod3_ge _); (case um2 => exact fmod3_le _); (case u7 => first | ktr_room | decide); (case u8 => first | ktr_units | decide); k_whole); intro t3 h3 tk3 F3 N3; (try dsimp only); (try k_sweep))
  k_with "TL call" => (k_dflt ((try dsimp only [List.nil_append, List.cons_append, List.append_nil]); refine' use_written ?u1 ?u2 ?u3 ?u4 ?u5 ?u6 ?um0 ?um1 ?um2 ?u7 ?u8 ?_; (case u1 => k_asm); (case u2 => k_asm); (case u3 => k_asm); (case u4 => k_asm); (case u5 => k_asm); (case u6 => first | exact rfl | assumption); (case um0 => assumption); (case um1 => exact fmod3_ge _); (case um2 => exact fmod3_le _); (case u7 => first | ktr_room | decide); (case u8 => first | ktr_units | decide); k_whole); intro t3 h3 tk3 F3 N3; (try dsimp only); (try k_sweep))
  k_with "TL call" => (k_dflt ((try dsimp only [List.nil_append, List.cons_append, List.append_nil]); refine' use_beads ?u1 ?u2 ?u3 ?u4 ?u5 ?u6 ?um0 ?um1 ?um2 ?um3 ?um4 ?um5 ?um6 ?u7 ?u8 ?_; (case u1 => k_asm); (case u2 => k_asm); (case u3 => k_asm); (case u4 => k_asm); (case u5 => k_asm); (case u6 => first | exact rfl | assumption); (case um0 => k_mem); (case um1 => k_mem); (case um2 => assumption); (case um3 => exact heaps_len _); (case um4 => exact heaps_in _); (case um5 => exact fmod3_ge _); (case um6 => exact fmod3_le _); (case u7 => first | ktr_room | decide); (case u8 => first | ktr_units | decide); k_whole); intro z tz h3 tk3 F3 N3 hz hev; (try dsimp only); (try k_sweep))
  k_with "TL call" => (k_dflt ((try dsimp only [List.nil_append, List.cons_append, List.append_nil]); refine' use_signs ?u1 ?u2 ?u3 ?u4 ?u5 ?u6 ?um0 ?um1 ?u7 ?u8 ?_; (case u1 => k_asm); (case u2 => k_asm); (case u3 => k_asm); (case u4 => k_asm); (case u5 => k_asm); (case u6 => first | exact rfl | assumption); (case um0 => exact fmod3_ge _); (case um1 => exact fmod3_le _); (case u7 => first | ktr_room | decide); (case u8 => first | ktr_units | decide); k_whole); intro sgA t0 t1 t2 h3 tk3 F3 N3 l1; (try dsimp only); (try k_lt l1); (try k_sweep))
  k_with "TL cut" => ((have hq9 := hev); clear hq9; (try dsimp only); k_here; k_dflt (refine' tail_in hz hev (fmod3_ge _) (fmod3_le _) ?cB ?cF ?cX ?cN ?cT ?c2 ?c1 ?cE ?_; (case cF => k_asm); (case cB => k_asm); (case cX => k_asm); (case cN => exact news_two (by k_asm) (by k_mem) (by k_mem)); (case cT => k_asm); (case c2 => assumption); (case c1 => assumption); (case cE => passes_own)); intro m' h' tk' F')
  w_strict (k_go0; (all_goals try k_fold); k_steps))
end TL
end

section
open PySem PySem.W PyProof.Rows
set_option maxRecDepth 100000
set_option maxHeartbeats 8000000
namespace TL
/- the names below are taken so that the head makes no quick twins of its own heaps: they are of no use here and fill 17 MB (wip/twins.py printed them) -/
theorem law_holds.tw11098359702569773063 : True := trivial
theorem law_holds.tw11352741842275866550 : True := trivial
theorem law_holds.tw8321535269676551167 : True := trivial
theorem law_holds.tw7424561620756199484 : True := trivial
theorem law_holds.tw9022767383336140494 : True := trivial
theorem law_holds.tw3750835320201827262 : True := trivial
theorem law_holds.tw8935389506224863890 : True := trivial
theorem law_holds.tw4517626374922686470 : True := trivial
theorem law_holds.tw1651384179935126183 : True := trivial
theorem law_holds.tw12761865829665387024 : True := trivial
theorem law_holds.tw969105400577543937 : True := trivial
theorem law_holds.tw8921093987522150416 : True := trivial
theorem law_holds.tw17871492728616121195 : True := trivial
theorem law_holds.tw423633043039523011 : True := trivial
theorem law_holds.tw17309370180944521473 : True := trivial
theorem law_holds.tw10374580526469138887 : True := trivial
theorem law_holds.tw17551673834128417294 : True := trivial
theorem law_holds.tw17160457380305448687 : True := trivial
theorem law_holds.tw4272262559769844251 : True := trivial
theorem law_holds.tw3726674196271432540 : True := trivial
theorem law_holds.tw9985337194637541298 : True := trivial
theorem law_holds.tw15977735937178174504 : True := trivial
theorem law_holds.tw6704125142358437303 : True := trivial
theorem law_holds.tw16973402611178050325 : True := trivial
theorem law_holds.tw9112545619493221567 : True := trivial
theorem law_holds.tw6321013560608074514 : True := trivial
theorem law_holds.tw5580409977439523083 : True := trivial
theorem law_holds.tw9719165468012222729 : True := trivial
theorem law_holds.tw554328524789856663 : True := trivial
theorem law_holds.tw16775838586119805932 : True := trivial
theorem law_holds.tw6402591593979692123 : True := trivial
theorem law_holds.tw17113982620015240973 : True := trivial
theorem law_holds.tw7796682919276494412 : True := trivial
theorem law_holds.tw5369161641510578636 : True := trivial
theorem law_holds.tw3863369917164540542 : True := trivial
theorem law_holds.tw11500437666103704152 : True := trivial
theorem law_holds.tw9285283971476431839 : True := trivial
theorem law_holds.tw10317863957117915260 : True := trivial
theorem law_holds.tw4890567344839632079 : True := trivial
theorem law_holds.tw1393334198979076300 : True := trivial
theorem law_holds.tw2835971003335635960 : True := trivial
theorem law_holds.tw13810280220328693896 : True := trivial
theorem law_holds.tw3079525952282461845 : True := trivial
theorem law_holds.tw10298856273008394381 : True := trivial
theorem law_holds.tw4805942010747729238 : True := trivial
theorem law_holds.tw7843122313458323035 : True := trivial
theorem law_holds.tw9720642744908748119 : True := trivial
theorem law_holds.tw16337959082845564124 : True := trivial
theorem law_holds.tw16822773560474131428 : True := trivial
theorem law_holds.tw15777068557162919461 : True := trivial
theorem law_holds.tw970498380989092198 : True := trivial
theorem law_holds.tw17829496179108517326 : True := trivial
theorem law_holds.tw3626571520461305142 : True := trivial
theorem law_holds.tw2337153740159020343 : True := trivial
theorem law_holds.tw5733271307093601034 : True := trivial
theorem law_holds.tw16014639309037601694 : True := trivial
theorem law_holds.tw14580243707657860493 : True := trivial
theorem law_holds.tw13130760334442914596 : True := trivial
theorem law_holds.tw3730463034110807599 : True := trivial
theorem law_holds.tw14640283304534910726 : True := trivial
theorem law_holds.tw3750495440506520593 : True := trivial
theorem law_holds.tw15683940280398001764 : True := trivial
theorem law_holds.tw5032692817770224000 : True := trivial
theorem law_holds.tw7382282790853539665 : True := trivial
theorem law_holds.tw8801800661875659507 : True := trivial
theorem law_holds.tw15710920847101651832 : True := trivial
theorem law_holds.tw3114120468221619722 : True := trivial
theorem law_holds.tw9752084215542220347 : True := trivial
theorem law_holds.tw10306709797145281835 : True := trivial
theorem law_holds.tw5572038211501668873 : True := trivial
theorem law_holds.tw2010677478397302574 : True := trivial
theorem law_holds.tw15652729011587531756 : True := trivial
theorem law_holds.tw8478743470931467990 : True := trivial
theorem law_holds.tw9531240869800003417 : True := trivial
theorem law_holds.tw7336855729549187396 : True := trivial
theorem law_holds.tw8829074559270533964 : True := trivial
theorem law_holds.tw11750501412990239706 : True := trivial
theorem law_holds.tw904010567466565416 : True := trivial
theorem law_holds.tw7658153417785568718 : True := trivial
theorem law_holds.tw10792112163339614261 : True := trivial
theorem law_holds.tw17823983352097389098 : True := trivial
theorem law_holds.tw5490255639039545252 : True := trivial
theorem law_holds.tw2879742305658206492 : True := trivial
theorem law_holds.tw4998825317425656048 : True := trivial
theorem law_holds.tw11114383403643224525 : True := trivial
theorem law_holds.tw2825858429390531751 : True := trivial
theorem law_holds.tw7801683833189119234 : True := trivial
theorem law_holds.tw8233584967528568740 : True := trivial
theorem law_holds.tw17774750443020300910 : True := trivial
theorem law_holds.tw14095191720016984678 : True := trivial
theorem law_holds.tw13022886779530468245 : True := trivial
theorem law_holds.tw11061529502182431988 : True := trivial
theorem law_holds.tw2655727920026733228 : True := trivial
theorem law_holds.tw16392554553673002517 : True := trivial
theorem law_holds.tw11393510272464021276 : True := trivial
theorem law_holds.tw17734486034325126954 : True := trivial
theorem law_holds.tw7042354091452527033 : True := trivial
theorem law_holds.tw9103173019908239354 : True := trivial
theorem law_holds.tw10011284013685901251 : True := trivial
theorem law_holds.tw8769708289118975002 : True := trivial
theorem law_holds.tw16475896661050051194 : True := trivial
theorem law_holds.tw8674277175535591937 : True := trivial
theorem law_holds.tw13726085898285726237 : True := trivial
theorem law_holds.tw9080410304914600396 : True := trivial
theorem law_holds.tw2388860087939437743 : True := trivial
theorem law_holds.tw13624029383231497697 : True := trivial
theorem law_holds.tw11271749616334655900 : True := trivial
theorem law_holds.tw13463069821392291970 : True := trivial
theorem law_holds.tw6118314660531016325 : True := trivial
theorem law_holds.tw15345496929727402072 : True := trivial
theorem law_holds.tw5103886139084039029 : True := trivial
theorem law_holds.tw16876299211973853639 : True := trivial
theorem law_holds.tw1798788220256099581 : True := trivial
theorem law_holds.tw11959244385525459342 : True := trivial
theorem law_holds.tw6898771222931735815 : True := trivial
theorem law_holds.tw2388799303370140650 : True := trivial
theorem law_holds.tw8150558169096106880 : True := trivial
theorem law_holds.tw7439224024684083036 : True := trivial
theorem law_holds.tw5569776470179611476 : True := trivial
theorem law_holds.tw16134713911292536109 : True := trivial
theorem law_holds.tw11506077921808050971 : True := trivial
theorem law_holds.tw11393864279602911398 : True := trivial
theorem law_holds.tw9541331329461097041 : True := trivial
theorem law_holds.tw3791875265818341600 : True := trivial
theorem law_holds.tw1940341903623544566 : True := trivial
theorem law_holds.tw16216471003680367460 : True := trivial
theorem law_holds.tw10081166603255016427 : True := trivial
theorem law_holds.tw8074543097059945756 : True := trivial
theorem law_holds.tw5596379136916038257 : True := trivial
theorem law_holds.tw15835159680176864131 : True := trivial
theorem law_holds.tw6095198375450974387 : True := trivial
theorem law_holds.tw11019335087100742507 : True := trivial
theorem law_holds.tw11498517658410658606 : True := trivial
theorem law_holds.tw3850447422135142138 : True := trivial
theorem law_holds.tw2077432066194692104 : True := trivial
theorem law_holds.tw11539702171922884825 : True := trivial
theorem law_holds.tw17294818785229289404 : True := trivial
theorem law_holds.tw17147683261894291381 : True := trivial
theorem law_holds.tw2429135148717733592 : True := trivial
theorem law_holds.tw14665623819724882228 : True := trivial
theorem law_holds.tw4818554614755371904 : True := trivial
theorem law_holds.tw16401411554333614565 : True := trivial
theorem law_holds.tw12920340623074946026 : True := trivial
theorem law_holds.tw7290719857545053037 : True := trivial
theorem law_holds.tw4481273222835500435 : True := trivial
theorem law_holds.tw16722401218764198257 : True := trivial
theorem law_holds.tw10790583893251503898 : True := trivial
theorem law_holds.tw11715050344440952758 : True := trivial
theorem law_holds.tw9116381141274287727 : True := trivial
theorem law_holds.tw7371396387316977191 : True := trivial
theorem law_holds.tw14856760589875171067 : True := trivial
theorem law_holds.tw17175592186583236143 : True := trivial
theorem law_holds.tw10020952099528552562 : True := trivial
theorem law_holds.tw9870766639980352569 : True := trivial
theorem law_holds.tw4160328251009178931 : True := trivial
theorem law_holds.tw12728707243799218255 : True := trivial
theorem law_holds.tw15830976006889712962 : True := trivial
theorem law_holds.tw5536467407016807982 : True := trivial
theorem law_holds.tw17613767140723557741 : True := trivial
theorem law_holds.tw2239963072927479565 : True := trivial
theorem law_holds.tw8399540649570747410 : True := trivial
theorem law_holds.tw1179366473859828331 : True := trivial
theorem law_holds.tw16152859204649640132 : True := trivial
theorem law_holds.tw5113972107360201023 : True := trivial
theorem law_holds.tw11333815964791736408 : True := trivial
theorem law_holds.tw5663851754437480083 : True := trivial
theorem law_holds.tw10836997635070793437 : True := trivial
theorem law_holds.tw13723684990395549809 : True := trivial
theorem law_holds.tw366387001844619396 : True := trivial
theorem law_holds.tw15003562180505288568 : True := trivial
theorem law_holds.tw3382441138850421675 : True := trivial
theorem law_holds.tw10252381045278126434 : True := trivial
theorem law_holds.tw17544899466322847347 : True := trivial
theorem law_holds.tw1749182741049991413 : True := trivial
theorem law_holds.tw13871512546310907390 : True := trivial
theorem law_holds.tw4559729402033610757 : True := trivial
theorem law_holds.tw9046435717329814872 : True := trivial
theorem law_holds.tw1449574138038620659 : True := trivial
theorem law_holds.tw15359685184570226193 : True := trivial
theorem law_holds.tw12073681629203641391 : True := trivial
theorem law_holds.tw12683537844594170087 : True := trivial
theorem law_holds.tw3483698776036166780 : True := trivial
theorem law_holds.tw149906515012847238 : True := trivial
theorem law_holds.tw6154505854918235371 : True := trivial
theorem law_holds.tw5407897259611801008 : True := trivial
theorem law_holds.tw687291369733964 : True := trivial
theorem law_holds.tw8271498402559476810 : True := trivial
theorem law_holds.tw14675702507881823468 : True := trivial
theorem law_holds.tw12309795426385420410 : True := trivial
theorem law_holds.tw5374716182071774228 : True := trivial
theorem law_holds.tw6245659190858721234 : True := trivial
theorem law_holds.tw13281381937250160437 : True := trivial
theorem law_holds.tw13614689540992690948 : True := trivial
theorem law_holds.tw3886006070328313558 : True := trivial
theorem law_holds.tw7128458197487751609 : True := trivial
theorem law_holds.tw113246705093378303 : True := trivial
theorem law_holds.tw15319703477651575773 : True := trivial
theorem law_holds.tw14655931132018290845 : True := trivial
theorem law_holds.tw14913769188458265335 : True := trivial
theorem law_holds.tw16821285502924835842 : True := trivial
theorem law_holds.tw13970333121563438534 : True := trivial
theorem law_holds.tw8136799224573712559 : True := trivial
theorem law_holds.tw6581795287105300446 : True := trivial
theorem law_holds.tw14760833987083460243 : True := trivial
theorem law_holds.tw17172911909936603344 : True := trivial
theorem law_holds.tw16336580017323144120 : True := trivial
theorem law_holds.tw10086248934497171202 : True := trivial
theorem law_holds.tw12334340516601043126 : True := trivial
theorem law_holds.tw14062523444102497747 : True := trivial
theorem law_holds.tw3590907791190182777 : True := trivial
theorem law_holds.tw3318942455842346459 : True := trivial
theorem law_holds.tw11631163306419512771 : True := trivial
theorem law_holds.tw222774352533261900 : True := trivial
theorem law_holds.tw13403162049357172001 : True := trivial
theorem law_holds.tw4644009403591175884 : True := trivial
theorem law_holds.tw16005530405258854555 : True := trivial
theorem law_holds.tw4528646175543168854 : True := trivial
theorem law_holds.tw13093485017277025517 : True := trivial
theorem law_holds.tw2842892842966866848 : True := trivial
theorem law_holds.tw336654935497872035 : True := trivial
theorem law_holds.tw9732203038111742991 : True := trivial
theorem law_holds.tw15648860145647930574 : True := trivial
theorem law_holds.tw13600036732708246625 : True := trivial
theorem law_holds.tw5132142419575959876 : True := trivial
theorem law_holds.tw11912883759748129063 : True := trivial
theorem law_holds.tw15455403138003605538 : True := trivial
theorem law_holds.tw17461072748816474693 : True := trivial
theorem law_holds.tw6072326334005879428 : True := trivial
theorem law_holds.tw1846462414140119131 : True := trivial
theorem law_holds.tw2602735682504394159 : True := trivial
theorem law_holds.tw1579738691424890357 : True := trivial
theorem law_holds.tw10786177900514244599 : True := trivial
theorem law_holds.tw6400871047042008975 : True := trivial
theorem law_holds.tw10056360977770126413 : True := trivial
theorem law_holds.tw13198553943757702479 : True := trivial
theorem law_holds.tw12236206673953529422 : True := trivial
theorem law_holds.tw16065848902461567733 : True := trivial
theorem law_holds.tw8025432207347069676 : True := trivial
theorem law_holds.tw15692867554578814392 : True := trivial
theorem law_holds.tw7605018644461305451 : True := trivial
theorem law_holds.tw13381530232741458177 : True := trivial
theorem law_holds.tw100291856779773028 : True := trivial
theorem law_holds.tw295222515988423948 : True := trivial
theorem law_holds.tw11293067315251632486 : True := trivial
theorem law_holds.tw15060195789235513758 : True := trivial
theorem law_holds.tw8581637691318403457 : True := trivial
theorem law_holds.tw422865115025081605 : True := trivial
theorem law_holds.tw14131133854909673363 : True := trivial
theorem law_holds.tw3759501786188435416 : True := trivial
theorem law_holds.tw9206825333935689375 : True := trivial
theorem law_holds.tw12800812915301880148 : True := trivial
theorem law_holds.tw9949675336856885830 : True := trivial
theorem law_holds.tw3475655623176723072 : True := trivial
theorem law_holds.tw10134726148318753928 : True := trivial
theorem law_holds.tw16683143011704085560 : True := trivial
theorem law_holds.tw1731744332034688594 : True := trivial
theorem law_holds.tw10793831604413815613 : True := trivial
theorem law_holds.tw13009440693182581829 : True := trivial
theorem law_holds.tw14348908237529603924 : True := trivial
theorem law_holds.tw7303597681035570692 : True := trivial
theorem law_holds.tw16676981147546079706 : True := trivial
theorem law_holds.tw11923720245179400606 : True := trivial
theorem law_holds.tw11927980078496166105 : True := trivial
theorem law_holds.tw11307073354770184669 : True := trivial
theorem law_holds.tw3024436395755646115 : True := trivial
theorem law_holds.tw12147526915217816483 : True := trivial
theorem law_holds.tw6864569016827484577 : True := trivial
theorem law_holds.tw304852694277725174 : True := trivial
theorem law_holds.tw14684157657625904226 : True := trivial
theorem law_holds.tw16761308730575476382 : True := trivial
theorem law_holds.tw16535675938802699678 : True := trivial
theorem law_holds.tw6730645672343860762 : True := trivial
theorem law_holds.tw4398257676575129187 : True := trivial
theorem law_holds.tw12804809982676546685 : True := trivial
theorem law_holds.tw2638199760661729586 : True := trivial
theorem law_holds.tw7004591865601054402 : True := trivial
theorem law_holds.tw4644652236359475459 : True := trivial
theorem law_holds.tw12973070780272120776 : True := trivial
theorem law_holds.tw13897947451052551795 : True := trivial
theorem law_holds.tw11314843241897658207 : True := trivial
theorem law_holds.tw11950612455106884781 : True := trivial
theorem law_holds.tw17266243736281266548 : True := trivial
theorem law_holds.tw9074113905757343502 : True := trivial
theorem law_holds.tw6481842235855096315 : True := trivial
theorem law_holds.tw16442798297195612251 : True := trivial
theorem law_holds.tw6034725319902922846 : True := trivial
theorem law_holds.tw2422714052838387919 : True := trivial
theorem law_holds.tw15891352331136089654 : True := trivial
theorem law_holds.tw16284974499444398966 : True := trivial
theorem law_holds.tw103512987622779459 : True := trivial
set_option Elab.async true in
/-- the head, in pieces, and the walk -/
theorem law_holds : PySem.Challenge.rw_tl0040_01.Holds := by
  k_with_none
  w_on
  o_law
  k_head
  (case hw => w_witness2)
  exact walk0
end TL
end

theorem PySem.Challenge.cw_tl0040_01_holds : PySem.Challenge.rw_tl0040_01.Holds := by
  exact TL.law_holds
