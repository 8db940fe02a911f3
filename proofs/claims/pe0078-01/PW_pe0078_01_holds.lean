import PyProof.Rows.All
import Wide.All
import OpenK.AllK
import Wide.FinOn
import PySem.Challenge.RW_pe0078_01
open PySem PySem.W PyProof.Rows PySem.Calls
set_option Elab.async false
set_option linter.unusedVariables false
set_option maxRecDepth 100000
set_option maxHeartbeats 60000000
namespace Mine
-- part Base
open_top hd for PySem.Challenge.rw_pe0078_01

/-- how a body ends: all that stood is kept, and R is so of what it hands back -/
def Ends (g : Heap) (s : Shared) (R : Value → Heap → Heap → Prop) (fl : Flow) (s' : Shared) : Prop :=
  ∃ h tk, s' = { s with heap := h, toks := tk } ∧ g.StaysIn h ∧ R (match fl with | .ret v => v | _ => .none) g h
theorem ends_ret {g h : Heap} {L : Addr} {m : Str → Option Value} {s : Shared} {R : Value → Heap → Heap → Prop} {v : Value} {tk : Nat} (F : Fr g L h m) (hR : R v g h) : Ends g s R (.ret v) { s with heap := h, toks := tk } :=
  ⟨h, tk, rfl, F.keep, hR⟩

def RetI (z : Int) (v : Value) (_ _ : Heap) : Prop := ∃ t, v = .int z t
def RetS (x : Str) (v : Value) (_ _ : Heap) : Prop := ∃ t, v = .str x t
theorem ends_int {g h : Heap} {L : Addr} {m : Str → Option Value} {s : Shared} {y z : Int} {t : Tok} {tk : Nat} (F : Fr g L h m) (e : y = z) : Ends g s (RetI z) (.ret (.int y t)) { s with heap := h, toks := tk } :=
  ends_ret F ⟨t, by rw [e]⟩
theorem ends_str {g h : Heap} {L : Addr} {m : Str → Option Value} {s : Shared} {y z : Str} {t : Tok} {tk : Nat} (F : Fr g L h m) (e : y = z) : Ends g s (RetS z) (.ret (.str y t)) { s with heap := h, toks := tk } :=
  ends_ret F ⟨t, by rw [e]⟩

/-- what a call of the def at f hands back -/
def Says (w : World) (p : Program) (loose : List Str) (mean : ExcName → Option Value) (mg mb : Str → Option Value) (f : Addr) (k : Nat) (vs : List Value) (R : Value → Heap → Heap → Prop) : Prop :=
  ∀ (dp un : Nat) (gd : Option (List Code)) (cn : Str) (cs : Scope) (a : Addr) (ccd : Value) (cl : List (Str × Addr)) (outer : List Env) (A₀ : Around) (base h₀ : Heap) (L : Addr) (m : Str → Option Value) (s : Shared) (Q E : Value → Shared → Prop),
    Below A₀ base outer h₀ → Fr h₀ L s.heap m → (hd.heap_39 w.params).In h₀ → Top p loose mean mg mb h₀ → cs.kind = .function → dp + k < recursionLimit → un + 8 * k < cLine →
    (∀ v h' tk', s.heap.StaysIn h' → R v s.heap h' → Q v { s with heap := h', toks := tk' }) →
    wpAny (model Challenge.rw_pe0078_01.row.prog w) (ktrTop dp un gd cn cs L a ccd cl outer) (call (.ref f) vs) Q E s

theorem says_of {w : World} {p : Program} {loose : List Str} {mean : ExcName → Option Value} {mg mb : Str → Option Value} {f : Addr} {k : Nat} {vs : List Value} {R : Value → Heap → Heap → Prop}
    {name qual : Str} {params : Arguments} {body : List Stmt} {scope : Scope} {dV kV doc pm cdv ct oc : Value} {an od : Option Addr} {osl : Array (Option Value)} (binds : List (Str × Value))
    (ho : (hd.heap_39 w.params).lookup f = some ⟨oc, od, .func (fnOf name qual params body scope dV kV doc pm an cdv ct), osl⟩) (hcd : codeIn (hd.heap_39 w.params) cdv qual = true)
    (hbind : ∀ s, BindsTo s (fnOf name qual params body scope dV kV doc pm an cdv ct) ⟨vs, []⟩ binds) (hloc : ∀ y ∈ binds, scope.names.lookup y.1 = some .local)
    (hco : scope.isCoroutine = false) (hgen : scope.isGenerator = false) (hk : scope.kind = .function)
    (hcell : ∀ x ∈ scope.names, x.2 ≠ .cell) (hk0 : 1 ≤ k)
    (h : ∀ dp un gd cn cs a ccd cl outer base g L L' h₁ tk s, Fr g L' h₁ (fun y => binds.reverse.lookup y) → News g L' h₁ [] → Below (ktrTop dp un gd cn cs L a ccd cl outer) base (envX cn cs L a ccd cl :: outer) g →
      (hd.heap_39 w.params).In g → Top p loose mean mg mb g → dp + k < recursionLimit → un + 8 * k < cLine →
      wpAny (model Challenge.rw_pe0078_01.row.prog w) ((ktrTop dp un gd cn cs L a ccd cl outer).deeper (envOf qual scope L' f cdv)) (execs body (envOf qual scope L' f cdv)) (Ends g s R) (fun _ _ => False) { s with heap := h₁, toks := tk }) :
    Says w p loose mean mg mb f k vs R := by
  intro dp un gd cn cs a ccd cl outer A₀ base h₀ L m s Q E B F X T hkk hdp hun hret
  refine wpAny_call ?_
  have N : News h₀ L s.heap [] := News.nil
  obtain ⟨FG, BG, st, lv⟩ := groundX (A := ktrTop dp un gd cn cs L a ccd cl outer) (env := envX cn cs L a ccd cl) (R := fun _ _ => True) B F N rfl rfl hkk
  refine codeAny_call_def (fd := fnOf name qual params body scope dV kV doc pm an cdv ct) (body := body) (binds := binds) (by show dp < recursionLimit; omega) ((X.keeps F.keep) _ _ ho) rfl (T.nolimit.keeps F.keep) (codeRec_of (X.keeps F.keep) hcd) rfl (hbind _) hcell hloc (fun h₁ hns hk₁ => ?_) hco hgen hk
  refine wpAny_mono (h dp un gd cn cs a ccd cl outer base s.heap L s.heap.objs.size h₁ (s.toks + binds.length) s ⟨hns, hk₁, Nat.le_refl _⟩ News.nil BG (X.keeps st) (T.keeps st) hdp hun) (fun fl s' hl => ?_) fun _ _ y => y.elim
  obtain ⟨h', tk, rfl, hs, hR⟩ := hl
  exact hret _ _ _ hs hR

-- part Sub1
local macro_rules | `(tactic| walk_at "MINE body") => `(tactic| ((case ho => k_is); (case hcd => k_is); (case hbind => exact fun _ => BindsTo.of_eq rfl); (case hcell => decide); (case hloc => exact locs rfl); (case hco => exact rfl); (case hgen => exact rfl); (case hk => exact rfl); (case hk0 => decide); k_whole))
/-- the four signs -/
def Sign (c : Nat) : Prop := c = 97 ∨ c = 46 ∨ c = 65 ∨ c = 98
def cst (c d : Nat) : Int := if c = d then 0 else if (c = 97 ∧ d = 65) ∨ (c = 65 ∧ d = 97) then 1 else 2
def one (c : Nat) : Str := ⟨#[c]⟩
theorem one_len (c : Nat) : (one c).length = 1 := rfl

theorem says_sub {w : World} {p loose mean mg mb} {c d : Nat} {t1 t2 : Tok} (hc : Sign c) (hd : Sign d) : Says w p loose mean mg mb 28 1 [.str (one c) t1, .str (one d) t2] (RetI (cst c d)) := by
  have hcl := one_len c
  have hdl := one_len d
  have e0 : (one c == one d) = decide (cst c d = 0) := by
    rcases hc with rfl | rfl | rfl | rfl <;> rcases hd with rfl | rfl | rfl | rfl <;> decide
  have e1 : (Txt.lower (one c) == Txt.lower (one d)) = decide (cst c d ≤ 1) := by
    rcases hc with rfl | rfl | rfl | rfl <;> rcases hd with rfl | rfl | rfl | rfl <;> decide +kernel
  have e2 : cst c d = 0 ∨ cst c d = 1 ∨ cst c d = 2 := by
    rcases hc with rfl | rfl | rfl | rfl <;> rcases hd with rfl | rfl | rfl | rfl <;> decide
  generalize one c = x at *
  generalize one d = y at *
  generalize cst c d = z at *
  clear hc hd
  unfold Says
  k_fill
  refine' says_of [(Str.ofString "ch_a", .str x t1), (Str.ofString "ch_b", .str y t2)] ?ho ?hcd ?hbind ?hloc ?hco ?hgen ?hk ?hcell ?hk0 ?_
  walk_at "MINE body"
  intro dp un gd cn cs a ccd cl outer base g L L' h₁ tk s F N B X T hdp hun
  (try dsimp only); (try k_lift B); (try k_fold)
  k_steps
  all_goals (dsimp only; refine ends_int (by k_asm) ?_)
  all_goals ((try simp only [e0, e1, decide_eq_true_eq, decide_eq_false_iff_not] at *); omega)

-- part Plain
theorem cst_self (x : Nat) : cst x x = 0 := by simp [cst]
theorem cst_nonneg (x y : Nat) : 0 ≤ cst x y := by unfold cst; (repeat' split) <;> omega
theorem cst_le (x y : Nat) : cst x y ≤ 2 := by unfold cst; (repeat' split) <;> omega
theorem cst_symm (x y : Nat) : cst x y = cst y x := by unfold cst; (repeat' split) <;> omega
theorem cst_dot {y : Nat} (h : y ≠ 46) : cst y 46 = 2 := by unfold cst; (repeat' split) <;> omega

/-- the costs of the alignments of two texts -/
inductive Al : List Nat → List Nat → Int → Prop
  | nil : Al [] [] 0
  | sub {a b n} (x y : Nat) : Al a b n → Al (x :: a) (y :: b) (n + cst x y)
  | del {a b n} (x : Nat) : Al a b n → Al (x :: a) b (n + 2)
  | ins {a b n} (y : Nat) : Al a b n → Al a (y :: b) (n + 2)

/-- the distance -/
def D : List Nat → List Nat → Int
  | [], b => 2 * (b.length : Int)
  | x :: a, [] => 2 * ((x :: a).length : Int)
  | x :: a, y :: b => min (D a b + cst x y) (min (D a (y :: b)) (D (x :: a) b) + 2)
termination_by a b => a.length + b.length

theorem D_nil (b : List Nat) : D [] b = 2 * (b.length : Int) := by rw [D.eq_def]
theorem D_right : ∀ a : List Nat, D a [] = 2 * (a.length : Int)
  | [] => by rw [D.eq_def]
  | x :: a => by rw [D.eq_def]
theorem D_cons (x y : Nat) (a b : List Nat) : D (x :: a) (y :: b) = min (D a b + cst x y) (min (D a (y :: b)) (D (x :: a) b) + 2) := by rw [D.eq_def]

theorem D_del (x : Nat) (a b : List Nat) : D (x :: a) b ≤ D a b + 2 := by
  cases b with
  | nil => rw [D_right, D_right, List.length_cons]; omega
  | cons y b => rw [D_cons]; omega
theorem D_ins (y : Nat) (a b : List Nat) : D a (y :: b) ≤ D a b + 2 := by
  cases a with
  | nil => rw [D_nil, D_nil, List.length_cons]; omega
  | cons x a => rw [D_cons]; omega
theorem D_sub (x y : Nat) (a b : List Nat) : D (x :: a) (y :: b) ≤ D a b + cst x y := by rw [D_cons]; omega

theorem D_le {a b : List Nat} {n : Int} (h : Al a b n) : D a b ≤ n := by
  induction h with
  | nil => rw [D_nil]; simp
  | @sub a b n x y _ ih => have := D_sub x y a b; omega
  | @del a b n x _ ih => have := D_del x a b; omega
  | @ins a b n y _ ih => have := D_ins y a b; omega

theorem al_insAll : ∀ b : List Nat, Al [] b (2 * (b.length : Int))
  | [] => .nil
  | y :: b => by
    have := Al.ins y (al_insAll b)
    rw [List.length_cons]
    have e : 2 * (b.length : Int) + 2 = 2 * ((b.length + 1 : Nat) : Int) := by omega
    rw [← e]; exact this
theorem al_delAll : ∀ a : List Nat, Al a [] (2 * (a.length : Int))
  | [] => .nil
  | x :: a => by
    have := Al.del x (al_delAll a)
    rw [List.length_cons]
    have e : 2 * (a.length : Int) + 2 = 2 * ((a.length + 1 : Nat) : Int) := by omega
    rw [← e]; exact this

theorem al_D : ∀ a b : List Nat, Al a b (D a b)
  | [], b => by rw [D_nil]; exact al_insAll b
  | x :: a, [] => by rw [D_right]; exact al_delAll _
  | x :: a, y :: b => by
    have h1 := Al.sub x y (al_D a b)
    have h2 := Al.del x (al_D a (y :: b))
    have h3 := Al.ins y (al_D (x :: a) b)
    have : D (x :: a) (y :: b) = D a b + cst x y ∨ D (x :: a) (y :: b) = D a (y :: b) + 2 ∨ D (x :: a) (y :: b) = D (x :: a) b + 2 := by
      rw [D_cons]; omega
    rcases this with e | e | e
    · rw [e]; exact h1
    · rw [e]; exact h2
    · rw [e]; exact h3
termination_by a b => a.length + b.length

theorem al_append {a b a' b' : List Nat} {n n' : Int} (h : Al a b n) (h' : Al a' b' n') : Al (a ++ a') (b ++ b') (n + n') := by
  induction h with
  | nil => simpa using h'
  | @sub a b n x y _ ih =>
    have := Al.sub x y ih
    have e : n + n' + cst x y = n + cst x y + n' := by omega
    rw [e] at this; exact this
  | @del a b n x _ ih =>
    have := Al.del x ih
    have e : n + n' + 2 = n + 2 + n' := by omega
    rw [e] at this; exact this
  | @ins a b n y _ ih =>
    have := Al.ins y ih
    have e : n + n' + 2 = n + 2 + n' := by omega
    rw [e] at this; exact this
theorem al_refl : ∀ a : List Nat, Al a a 0
  | [] => .nil
  | x :: a => by
    have := Al.sub x x (al_refl a)
    rw [cst_self] at this
    exact this
theorem al_symm {a b : List Nat} {n : Int} (h : Al a b n) : Al b a n := by
  induction h with
  | nil => exact .nil
  | sub x y _ ih => rw [cst_symm]; exact .sub y x ih
  | del x _ ih => exact .ins x ih
  | ins y _ ih => exact .del y ih
theorem al_reverse {a b : List Nat} {n : Int} (h : Al a b n) : Al a.reverse b.reverse n := by
  induction h with
  | nil => exact .nil
  | @sub a b n x y _ ih =>
    have h2 : Al [x] [y] (cst x y) := by simpa using Al.sub x y .nil
    simpa using al_append ih h2
  | @del a b n x _ ih =>
    have h2 : Al [x] [] 2 := by simpa using Al.del x .nil
    simpa using al_append ih h2
  | @ins a b n y _ ih =>
    have h2 : Al [] [y] 2 := by simpa using Al.ins y .nil
    simpa using al_append ih h2

theorem D_symm (a b : List Nat) : D a b = D b a := Int.le_antisymm (D_le (al_symm (al_D b a))) (D_le (al_symm (al_D a b)))
theorem D_reverse (a b : List Nat) : D a.reverse b.reverse = D a b := by
  refine Int.le_antisymm (D_le (al_reverse (al_D a b))) ?_
  have := D_le (al_reverse (al_D a.reverse b.reverse))
  rwa [List.reverse_reverse, List.reverse_reverse] at this
theorem D_self (a : List Nat) : D a a ≤ 0 := D_le (al_refl a)

theorem al_len {a b : List Nat} {n : Int} (h : Al a b n) : 0 ≤ n ∧ 2 * ((b.length : Int) - a.length) ≤ n ∧ 2 * ((a.length : Int) - b.length) ≤ n := by
  induction h with
  | nil => simp
  | @sub a b n x y _ ih => have := cst_nonneg x y; simp only [List.length_cons]; omega
  | @del a b n x _ ih => simp only [List.length_cons]; omega
  | @ins a b n y _ ih => simp only [List.length_cons]; omega
theorem D_len (a b : List Nat) : 0 ≤ D a b ∧ 2 * ((b.length : Int) - a.length) ≤ D a b ∧ 2 * ((a.length : Int) - b.length) ≤ D a b := al_len (al_D a b)

theorem D_undel (x : Nat) (a : List Nat) : ∀ b : List Nat, D a b ≤ D (x :: a) b + 2
  | [] => by rw [D_right, D_right, List.length_cons]; omega
  | y :: b => by
    have h1 := D_undel x a b
    have h2 := D_ins y a b
    have h3 := cst_nonneg x y
    rw [D_cons]
    omega
theorem D_unins (y : Nat) (a b : List Nat) : D a b ≤ D a (y :: b) + 2 := by
  rw [D_symm a b, D_symm a (y :: b)]; exact D_undel y b a
theorem D_same (x : Nat) (a b : List Nat) : D (x :: a) (x :: b) = D a b := by
  have h1 := D_undel x a b
  have h2 := D_unins x a b
  rw [D_cons, cst_self]
  omega
theorem D_front : ∀ (p a b : List Nat), D (p ++ a) (p ++ b) = D a b
  | [], _, _ => rfl
  | x :: p, a, b => by rw [List.cons_append, List.cons_append, D_same, D_front p]
theorem D_back (q a b : List Nat) : D (a ++ q) (b ++ q) = D a b := by
  rw [← D_reverse (a ++ q), List.reverse_append, List.reverse_append, D_front, D_reverse]

theorem D_snoc (x y : Nat) (a b : List Nat) : D (a ++ [x]) (b ++ [y]) = min (D a b + cst x y) (min (D a (b ++ [y])) (D (a ++ [x]) b) + 2) := by
  rw [← D_reverse (a ++ [x]), ← D_reverse a (b ++ [y]), ← D_reverse (a ++ [x]) b, ← D_reverse a b]
  simp only [List.reverse_append, List.reverse_cons, List.reverse_nil, List.nil_append, List.singleton_append]
  rw [D_cons]

theorem al_split {a c : List Nat} {n : Int} (h : Al a c n) : ∀ b₁ b₂, c = b₁ ++ b₂ → ∃ a₁ a₂ n₁ n₂, a = a₁ ++ a₂ ∧ Al a₁ b₁ n₁ ∧ Al a₂ b₂ n₂ ∧ n = n₁ + n₂ := by
  induction h with
  | nil =>
    intro b₁ b₂ e
    obtain ⟨rfl, rfl⟩ := List.append_eq_nil_iff.mp e.symm
    exact ⟨[], [], 0, 0, rfl, .nil, .nil, rfl⟩
  | @sub a b n x y h ih =>
    intro b₁ b₂ e
    cases b₁ with
    | nil => exact ⟨[], x :: a, 0, n + cst x y, rfl, .nil, by rw [List.nil_append] at e; rw [← e]; exact .sub x y h, by omega⟩
    | cons z b₁ =>
      rw [List.cons_append] at e
      injection e with e1 e2
      subst e1
      obtain ⟨a₁, a₂, n₁, n₂, rfl, h1, h2, rfl⟩ := ih b₁ b₂ e2
      exact ⟨x :: a₁, a₂, _, n₂, rfl, .sub x y h1, h2, by omega⟩
  | @del a b n x h ih =>
    intro b₁ b₂ e
    obtain ⟨a₁, a₂, n₁, n₂, rfl, h1, h2, rfl⟩ := ih b₁ b₂ e
    exact ⟨x :: a₁, a₂, _, n₂, rfl, .del x h1, h2, by omega⟩
  | @ins a b n y h ih =>
    intro b₁ b₂ e
    cases b₁ with
    | nil => exact ⟨[], a, 0, n + 2, rfl, .nil, by rw [List.nil_append] at e; rw [← e]; exact .ins y h, by omega⟩
    | cons z b₁ =>
      rw [List.cons_append] at e
      injection e with e1 e2
      subst e1
      obtain ⟨a₁, a₂, n₁, n₂, rfl, h1, h2, rfl⟩ := ih b₁ b₂ e2
      exact ⟨a₁, a₂, _, n₂, rfl, .ins y h1, h2, by omega⟩

/-- what a row of the table says of the whole distance -/
theorem D_row {a b : List Nat} {j : Nat} {c : Int} (ha : a ≠ []) (hj : j < b.length) (h : ∀ i, i < a.length → c ≤ D (a.take (i + 1)) (b.take (j + 1))) : c ≤ D a b := by
  obtain ⟨a₁, a₂, n₁, n₂, e, h1, h2, e2⟩ := al_split (al_D a b) (b.take (j + 1)) (b.drop (j + 1)) (List.take_append_drop _ _).symm
  have l1 := D_le h1
  have l2 := (al_len h2).1
  cases a₁ with
  | nil =>
    cases a with
    | nil => exact absurd rfl ha
    | cons x a =>
      have h0 := h 0 (by simp)
      have : D (List.take (0 + 1) (x :: a)) (b.take (j + 1)) ≤ D [] (b.take (j + 1)) := by
        simp only [List.take_succ_cons, List.take_zero, Nat.zero_add]
        cases hb : b.take (j + 1) with
        | nil =>
          have := congrArg List.length hb
          rw [List.length_take, List.length_nil] at this
          omega
        | cons y r =>
          have q1 := D_sub x y [] r
          have q2 := cst_le x y
          rw [D_nil] at q1 ⊢
          rw [List.length_cons]
          omega
      omega
  | cons z a₁ =>
    have hl : a₁.length + 1 ≤ a.length := by rw [e]; simp
    have h0 := h a₁.length (by omega)
    have et : a.take (a₁.length + 1) = z :: a₁ := by
      rw [e]
      exact List.take_left' (by simp)
    rw [et] at h0
    omega

theorem D_step {a b : List Nat} {i j : Nat} {x y : Nat} (hx : a[i]? = some x) (hy : b[j]? = some y) :
    D (a.take (i + 1)) (b.take (j + 1)) = min (min (D (a.take i) (b.take (j + 1))) (D (a.take (i + 1)) (b.take j)) + 2) (D (a.take i) (b.take j) + cst y x) := by
  have ex : a.take (i + 1) = a.take i ++ [x] := by rw [List.take_add_one, hx]; rfl
  have ey : b.take (j + 1) = b.take j ++ [y] := by rw [List.take_add_one, hy]; rfl
  rw [ex, ey, D_snoc, cst_symm y x, Int.min_comm]

-- part Plain2
/-- the dots of a text -/
def dots (v : List Nat) : Nat := v.countP (· == 46)
theorem dots_cons (y : Nat) (v : List Nat) : dots (y :: v) = dots v + (if y = 46 then 1 else 0) := by
  unfold dots; rw [List.countP_cons]; simp

theorem al_dots {v u : List Nat} {n : Int} (h : Al v u n) : (∀ c ∈ u, c = 46) → 2 * (v.length : Int) - 2 * (min (dots v) u.length : Nat) ≤ n := by
  induction h with
  | nil => intro _; simp [dots]
  | @sub a b n x y _ ih =>
    intro hu
    have hy : y = 46 := hu y (by simp)
    have := ih fun c hc => hu c (by simp [hc])
    subst hy
    rw [dots_cons]
    simp only [List.length_cons]
    by_cases hx : x = 46
    · rw [if_pos hx, hx, cst_self]; omega
    · rw [if_neg hx, cst_dot hx]; omega
  | @del a b n x _ ih =>
    intro hu
    have := ih hu
    rw [dots_cons]
    simp only [List.length_cons]
    split <;> omega
  | @ins a b n y _ ih =>
    intro hu
    have := ih fun c hc => hu c (by simp [hc])
    simp only [List.length_cons]
    omega

theorem dots_le (v : List Nat) : dots v ≤ v.length := List.countP_le_length

theorem D_dots_le : ∀ (v u : List Nat), (∀ c ∈ u, c = 46) → u.length ≤ v.length → D v u ≤ 2 * (v.length : Int) - 2 * (min (dots v) u.length : Nat)
  | [], u, _, hl => by
    have : u = [] := List.eq_nil_of_length_eq_zero (by simpa using hl)
    subst this
    rw [D_nil]; simp
  | y :: v, [], _, _ => by rw [D_right]; simp
  | y :: v, z :: u, hu, hl => by
    have hz : z = 46 := hu z (by simp)
    have hu' : ∀ c ∈ u, c = 46 := fun c hc => hu c (by simp [hc])
    simp only [List.length_cons] at hl
    subst hz
    rw [dots_cons]
    simp only [List.length_cons]
    have d := dots_le v
    by_cases hy : y = 46
    · have h1 := D_dots_le v u hu' (by omega)
      have h2 := D_sub y 46 v u
      rw [hy, cst_self] at h2
      rw [if_pos hy, hy]; omega
    · rw [if_neg hy]
      by_cases hq : u.length + 1 ≤ v.length
      · have h1 := D_dots_le v (46 :: u) hu (by simpa using hq)
        have h2 := D_del y v (46 :: u)
        simp only [List.length_cons] at h1
        omega
      · have h1 := D_dots_le v u hu' (by omega)
        have h2 := D_sub y 46 v u
        have h3 := cst_le y 46
        omega

theorem D_dots {v u : List Nat} (hu : ∀ c ∈ u, c = 46) (hl : u.length ≤ v.length) : D v u = 2 * (v.length : Int) - 2 * (min (dots v) u.length : Nat) :=
  Int.le_antisymm (D_dots_le v u hu hl) (al_dots (al_D v u) hu)

def frontN (w : Int) : Nat := ((w - 3) / 2).toNat
def backN (w : Int) : Nat := (w - 3 - (frontN w : Int)).toNat
def three : List Nat := [46, 46, 46]
def formL (l : List Nat) (w : Int) : List Nat := if (l.length : Int) ≤ w then l else l.take (frontN w) ++ three ++ l.drop (l.length - backN w)
def leftL (l : List Nat) (w : Int) : List Nat := (l.take (l.length - backN w)).drop (frontN w)
def dueL (l : List Nat) (less more : Int) : Int :=
  if less = more then 0 else if more < (l.length : Int) then 2 * (more - less) else 2 * (((leftL l less).length : Int) - (min (dots (leftL l less)) 3 : Nat))

theorem parts_whole (l : List Nat) {f k : Nat} (h : f ≤ k) (hk : k ≤ l.length) : l = l.take f ++ ((l.take k).drop f ++ l.drop k) := by
  rw [← List.append_assoc]
  have e : l.take f ++ (l.take k).drop f = l.take k := by
    have : l.take f = (l.take k).take f := by rw [List.take_take, Nat.min_eq_left h]
    rw [this, List.take_append_drop]
  rw [e, List.take_append_drop]

theorem D_due {l : List Nat} {less more : Int} (h3 : 3 ≤ less) (hle : less ≤ more) (hm : more ≤ l.length) : D (formL l more) (formL l less) = dueL l less more := by
  unfold dueL
  by_cases e : less = more
  · rw [if_pos e, e]
    exact Int.le_antisymm (D_self _) (D_len _ _).1
  · rw [if_neg e]
    have hl : ¬ ((l.length : Int) ≤ less) := by omega
    have hf : frontN less ≤ l.length - backN less := by unfold backN frontN; omega
    by_cases hq : more < (l.length : Int)
    · rw [if_pos hq]
      have hl2 : ¬ ((l.length : Int) ≤ more) := by omega
      unfold formL
      rw [if_neg hl, if_neg hl2]
      have f1 : frontN less ≤ frontN more := by unfold frontN; omega
      have b1 : backN less ≤ backN more := by unfold backN frontN; omega
      have b2 : backN more ≤ l.length := by unfold backN frontN; omega
      have f2 : frontN more ≤ l.length := by unfold frontN; omega
      have hs : (frontN more : Int) + backN more = more - 3 := by unfold backN frontN; omega
      have hs1 : (frontN less : Int) + backN less = less - 3 := by unfold backN frontN; omega
      refine Int.le_antisymm ?_ ?_
      · have e1 : l.take (frontN more) = l.take (frontN less) ++ (l.take (frontN more)).drop (frontN less) := by
          have : l.take (frontN less) = (l.take (frontN more)).take (frontN less) := by rw [List.take_take, Nat.min_eq_left f1]
          rw [this, List.take_append_drop]
        have e2 : l.drop (l.length - backN more) = (l.drop (l.length - backN more)).take (backN more - backN less) ++ l.drop (l.length - backN less) := by
          have : l.drop (l.length - backN less) = (l.drop (l.length - backN more)).drop (backN more - backN less) := by
            rw [List.drop_drop]; congr 1; omega
          rw [this, List.take_append_drop]
        rw [e1, e2]
        have q1 := al_append (al_refl (l.take (frontN less))) (al_delAll ((l.take (frontN more)).drop (frontN less)))
        have q2 := al_append q1 (al_refl three)
        have q3 := al_append (al_delAll ((l.drop (l.length - backN more)).take (backN more - backN less))) (al_refl (l.drop (l.length - backN less)))
        have q4 := D_le (al_append q2 q3)
        simp only [List.append_nil, List.nil_append, List.length_drop, List.length_take] at q4
        simp only [← List.append_assoc] at q4 ⊢
        omega
      · have := (D_len (l.take (frontN more) ++ three ++ l.drop (l.length - backN more)) (l.take (frontN less) ++ three ++ l.drop (l.length - backN less))).2.2
        simp only [List.length_append, List.length_take, List.length_drop] at this
        omega
    · rw [if_neg hq]
      have hml : (l.length : Int) ≤ more := by omega
      have e1 : formL l more = l.take (frontN less) ++ (leftL l less ++ l.drop (l.length - backN less)) := by
        unfold formL leftL
        rw [if_pos hml]
        exact parts_whole l hf (by omega)
      have e2 : formL l less = l.take (frontN less) ++ (three ++ l.drop (l.length - backN less)) := by
        unfold formL
        rw [if_neg hl, List.append_assoc]
      rw [e1, e2, D_front, D_back]
      have hll : (leftL l less).length = l.length - backN less - frontN less := by
        unfold leftL
        rw [List.length_drop, List.length_take]; omega
      have h3l : three.length ≤ (leftL l less).length := by
        rw [hll]; unfold three backN frontN; simp only [List.length_cons, List.length_nil]; omega
      rw [D_dots (u := three) (by unfold three; simp) h3l]
      have : three.length = 3 := rfl
      rw [this]
      omega

-- part Text
/-- a text by its signs -/
def tx (l : List Nat) : Str := ⟨l.toArray⟩
theorem tx_len (l : List Nat) : (tx l).length = l.length := by simp [tx, Str.length]
theorem tx_cps (l : List Nat) : (tx l).cps.toList = l := rfl
theorem tx_append (a b : List Nat) : tx a ++ tx b = tx (a ++ b) := by
  refine Str.ext' ?_
  rw [Str.cps_append]
  simp [tx]
theorem tx_beq (a b : List Nat) : (tx a == tx b) = decide (a = b) := by
  by_cases h : a = b
  · subst h; simp
  · rw [decide_eq_false h]
    refine beq_eq_false_iff_ne.mpr fun e => h ?_
    have := congrArg (fun x => x.cps.toList) e
    simpa [tx] using this
theorem tx_three : Str.ofString "..." = tx three := by decide +kernel
theorem tx_nil : Str.ofString "" = tx [] := by decide +kernel

theorem slice_all (l : List Nat) : Txt.slice (tx l) none none = tx l := by
  show StrLaws.sliceText _ none none = _
  have := StrLaws.sliceText_from (x := tx l) (i := 0) (by simp)
  have e : StrLaws.sliceText (tx l) none none = StrLaws.sliceText (tx l) (some 0) none := rfl
  rw [e, this]
  simp [tx]
theorem slice_from {l : List Nat} {i : Int} (h : 0 ≤ i) : Txt.slice (tx l) (some i) none = tx (l.drop i.toNat) := by
  by_cases h2 : i ≤ l.length
  · show StrLaws.sliceText _ (some i) none = _
    rw [StrLaws.sliceText_from (by rw [tx_cps]; omega), tx_cps]
    unfold tx
    congr 2
    exact List.take_of_length_le (by rw [List.length_drop]; omega)
  · rw [slice_beyond (by rw [tx_len]; omega), List.drop_eq_nil_of_le (by omega)]
    rfl
theorem slice_to {l : List Nat} {j : Int} (h : 0 ≤ j) (h2 : j ≤ l.length) : Txt.slice (tx l) none (some j) = tx (l.take j.toNat) := by
  show StrLaws.sliceText _ none (some j) = _
  rw [StrLaws.sliceText_to (by rw [tx_cps]; omega), tx_cps, List.drop_zero, Int.sub_zero]
  rfl
theorem slice_mid {l : List Nat} {i j : Int} (h : 0 ≤ i) (hij : i ≤ j) (h2 : j ≤ l.length) : Txt.slice (tx l) (some i) (some j) = tx ((l.take j.toNat).drop i.toNat) := by
  show StrLaws.sliceText _ (some i) (some j) = _
  rw [StrLaws.sliceText_plain (by rw [tx_cps]; omega), tx_cps]
  have e : (j - i).toNat = j.toNat - i.toNat := by omega
  rw [List.drop_take, e]
  rfl
theorem slice_neg {l : List Nat} {j : Int} (h : j < 0) (h2 : -(l.length : Int) ≤ j) : Txt.slice (tx l) none (some j) = tx (l.take (l.length + j).toNat) := by
  show StrLaws.sliceText _ none (some j) = _
  rw [StrLaws.sliceText_to_neg h (by rw [tx_len]; omega), tx_cps, tx_len, List.drop_zero, Int.sub_zero, Int.add_comm]
  rfl

-- part Cram1
theorem cram_is {l : List Nat} {n a b : Int} (h : n < l.length) (ha : a = if (n - 3).fdiv 2 > 0 then (n - 3).fdiv 2 else 0) (hb : b = if n - 3 - a > 0 then n - 3 - a else 0) :
    Txt.slice (tx l) none (some a) ++ Str.ofString "..." ++ Txt.slice (tx l) (some ((l.length : Int) - b)) none = tx (formL l n) := by
  have e0 : (n - 3).fdiv 2 = (n - 3) / 2 := Int.fdiv_eq_ediv_of_nonneg _ (by decide)
  rw [e0] at ha
  have a0 : 0 ≤ a := by rw [ha]; split <;> omega
  have a1 : a ≤ l.length := by rw [ha]; split <;> omega
  have ea : a.toNat = frontN n := by unfold frontN; rw [ha]; split <;> omega
  have b0 : 0 ≤ (l.length : Int) - b := by rw [hb]; split <;> omega
  have eb : ((l.length : Int) - b).toNat = l.length - backN n := by unfold backN; rw [← ea, hb]; split <;> omega
  rw [slice_to a0 a1, slice_from b0, tx_three, tx_append, tx_append, ea, eb]
  unfold formL
  rw [if_neg (by omega)]

theorem says_cram {w : World} {p loose mean mg mb} {l : List Nat} {n : Int} {t1 t2 : Tok} (hl : l.length ≤ 9) : Says w p loose mean mg mb 21 1 [.str (tx l) t1, .int n t2] (RetS (tx (formL l n))) := by
  have hx : (tx l).length ≤ 9 := by rw [tx_len]; exact hl
  unfold Says
  k_fill
  refine' says_of [(Str.ofString "text", .str (tx l) t1), (Str.ofString "maxlen", .int n t2)] ?ho ?hcd ?hbind ?hloc ?hco ?hgen ?hk ?hcell ?hk0 ?_
  walk_at "MINE body"
  intro dp un gd cn cs a ccd cl outer base g L L' h₁ tk s F N B X T hdp hun
  (try dsimp only); (try k_lift B); (try k_fold)
  k_steps
  all_goals (try k_unfold)
  all_goals ((try dsimp only); refine ends_str (by k_asm) ?_)
  all_goals (simp only [tx_len] at *)
  · exact cram_is (by assumption) rfl rfl
  · unfold formL; rw [if_pos (by omega)]

-- part Parts1
section
variable {prog : Program} {w : World} {A : Around} {E : Value → Shared → Prop} {s : Shared} {env : Env} {h₀ : Heap} {x : Str} {body : List Stmt} {Q : Flow → Shared → Prop}
/-- a for over an empty range, however great its numbers -/
theorem iter_empty {r : Addr} {a₀ b₀ : Int} {t₀ u₀ v₀ : Tok} {m₀ : Str → Option Value} {news : List (Addr × Obj)}
    (hh : A.handled = none) (hr : IsRange s.heap r a₀ b₀ 1 t₀ u₀ v₀) (hle : b₀ ≤ a₀) (F : Fr h₀ env.locals s.heap m₀) (N : News h₀ env.locals s.heap news)
    (done : ∀ h tk, Fr h₀ env.locals h m₀ → News h₀ env.locals h news → Q .next { s with heap := h, toks := tk }) :
    wpAny (model prog w) A (pyIter (.ref r)) (fun it s₂ => LoopAtV prog w A h₀ env x body Q E it s₂) E s := by
  have hn : Builtin.Range.rangeSize a₀ b₀ 1 = ((0 : Nat) : Int) := by rw [rangeSize_nat]; omega
  have q1 : env.locals ∉ [s.heap.objs.size] := fun hm => absurd F.ns.lt ((List.mem_singleton.mp hm) ▸ Nat.lt_irrefl _)
  have q2 : ∀ b ∈ [s.heap.objs.size], h₀.get? b = none := fun b hb => by rw [List.mem_singleton.mp hb]; exact next_is_new F
  have q3 : ∀ p ∈ news, p.1 ∉ [s.heap.objs.size] := fun p hp hI => absurd (Heap.lt_size (N p hp).1) ((List.mem_singleton.mp hI) ▸ Nat.lt_irrefl _)
  cases hs : Builtin.Range.small a₀ b₀ 1 with
  | true =>
    refine wpAny_pyIter_range hr hs ?_
    refine loop_invN (fun _ m nx => m = m₀ ∧ nx = news) (Walks.range hh _ a₀ 1 0) q1 q2 q3 q3 (by show IsRangeIter _ _ _ _ _; rw [hn]; simpa using Heap.get?_push_size _ rfl) (F.push _) (fun p hp => ⟨Heap.get?_push_of_some _ (N p hp).1, (N p hp).2⟩) ⟨rfl, rfl⟩ ?_ ?_
    · intro i v m₁ nx h tk own hi; exact absurd hi (Nat.not_lt_zero _)
    · rintro m₁ nx h tk ⟨rfl, rfl⟩ F₁ N₁; exact done h tk F₁ N₁
  | false =>
    refine wpAny_pyIter_longrange hr hs ?_
    refine loop_invN (fun _ m nx => m = m₀ ∧ nx = news) (Walks.longrange hh _ a₀ 1 0) q1 q2 q3 q3 (by show IsLongIter _ _ _ _ _; rw [hn]; simpa using Heap.get?_push_size _ rfl) (F.push _) (fun p hp => ⟨Heap.get?_push_of_some _ (N p hp).1, (N p hp).2⟩) ⟨rfl, rfl⟩ ?_ ?_
    · intro i v m₁ nx h tk own hi; exact absurd hi (Nat.not_lt_zero _)
    · rintro m₁ nx h tk ⟨rfl, rfl⟩ F₁ N₁; exact done h tk F₁ N₁
end

def RetT (x y z : Str) (v : Value) (g h : Heap) : Prop := ∃ a t1 t2 t3 n, v = .ref a ∧ g.get? a = none ∧ h.get? a = some { cls := .type "tuple", data := .seq #[.str x t1, .str y t2, .str z t3] n }

theorem ends_tup {g h : Heap} {L a : Addr} {m : Str → Option Value} {s : Shared} {x y z x' y' z' : Str} {t1 t2 t3 : Tok} {tk : Nat} {n : Nat} {news : List (Addr × Obj)} (F : Fr g L h m)
    (N : News g L h ((a, { cls := .type "tuple", data := .seq #[.str x' t1, .str y' t2, .str z' t3] n }) :: news)) (e : x' = x ∧ y' = y ∧ z' = z) :
    Ends g s (RetT x y z) (.ret (.ref a)) { s with heap := h, toks := tk } := by
  obtain ⟨rfl, rfl, rfl⟩ := e
  exact ends_ret F ⟨a, t1, t2, t3, n, rfl, (N _ (.head _)).2.2, (N _ (.head _)).1⟩

theorem parts_is {l : List Nat} {n f b : Int} (hn : n < l.length) (hf : f = frontN n) (hb : b = (l.length : Int) - backN n) :
    Txt.slice (tx l) none (some f) = tx (l.take (frontN n)) ∧ Txt.slice (tx l) (some f) (some b) = tx (leftL l n) ∧ Txt.slice (tx l) (some b) none = tx (l.drop (l.length - backN n)) := by
  have h1 : (frontN n : Int) ≤ (l.length : Int) - backN n := by unfold backN frontN; omega
  have h2 : (backN n : Int) ≤ l.length := by omega
  have e1 : f.toNat = frontN n := by omega
  have e2 : b.toNat = l.length - backN n := by omega
  rw [slice_to (by omega) (by omega), slice_mid (by omega) (by omega) (by omega), slice_from (by omega), e1, e2]
  exact ⟨rfl, rfl, rfl⟩

theorem says_parts {w : World} {p loose mean mg mb} {l : List Nat} {n : Int} {t1 t2 : Tok} (hl : l.length ≤ 9) (hn : n < l.length) :
    Says w p loose mean mg mb 42 1 [.str (tx l) t1, .int n t2] (RetT (tx (l.take (frontN n))) (tx (leftL l n)) (tx (l.drop (l.length - backN n)))) := by
  have hx : (tx l).length ≤ 9 := by rw [tx_len]; exact hl
  have hn' : n < (tx l).length := by rw [tx_len]; exact hn
  unfold Says
  k_fill
  refine' says_of [(Str.ofString "text", .str (tx l) t1), (Str.ofString "width", .int n t2)] ?ho ?hcd ?hbind ?hloc ?hco ?hgen ?hk ?hcell ?hk0 ?_
  walk_at "MINE body"
  intro dp un gd cn cs a ccd cl outer base g L L' h₁ tk s F N B X T hdp hun
  (try dsimp only); (try k_lift B); (try k_fold)
  k_steps
  by_cases h3 : n ≤ 3
  · refine iter_empty rfl (by assumption) (by omega) (by assumption) (by assumption) ?_
    intro h' tk' F' N'
    (try dsimp only); (try k_fold)
    k_steps
    (try k_unfold)
    (try dsimp only)
    refine ends_tup (by k_asm) (by k_asm) (parts_is hn ?_ ?_)
    · unfold frontN; omega
    · rw [tx_len]; unfold backN frontN; omega
  · k_with "state" => first
      | (rename Int.fmod _ _ = 0 => hq; rw [Int.fmod_eq_emod_of_nonneg _ (by decide)] at hq; simp only [List.length_append, List.length_cons, List.length_nil]; constructor <;> omega)
      | (rename ¬ Int.fmod _ _ = 0 => hq; rw [Int.fmod_eq_emod_of_nonneg _ (by decide)] at hq; simp only [List.length_append, List.length_cons, List.length_nil]; constructor <;> omega)
    k_state (fun pre first behind => first = (pre.length : Int) / 2 ∧ behind = ((tx l).length : Int) - ((pre.length : Int) + 1) / 2) "first" "behind"
    all_goals k_steps
    k_with_none
    (try k_unfold)
    (try dsimp only)
    (rename (_ : Int) = _ / 2 => q1)
    (rename (_ : Int) = _ - _ / 2 => q2)
    rw [rangeKs_length] at q1 q2
    rw [tx_len] at q2
    refine ends_tup (by k_asm) (by k_asm) (parts_is hn ?_ ?_)
    · rw [q1]; unfold frontN; omega
    · rw [q2]; unfold backN frontN; omega

-- part Use
section
variable {w : World} {p : Program} {loose : List Str} {mean : ExcName → Option Value} {mg mb : Str → Option Value} {f : Addr} {k : Nat} {vs : List Value}
  {dp un : Nat} {gd : Option (List Code)} {cn : Str} {cs : Scope} {a : Addr} {ccd : Value} {cl : List (Str × Addr)} {outer : List Env} {A₀ : Around} {base h₀ : Heap} {L : Addr} {m : Str → Option Value} {s : Shared} {Q E : Value → Shared → Prop} {news : List (Addr × Obj)}

theorem fr_stays {h h' : Heap} (F : Fr h₀ L h m) (st : h.StaysIn h') : Fr h₀ L h' m := by
  obtain ⟨oL, es, ep, hL, r⟩ := F.ns
  exact ⟨⟨oL, es, ep, st _ _ hL, r⟩, fun b o e => st _ _ (F.keep b o e), F.above⟩
theorem news_stays {h h' : Heap} (N : News h₀ L h news) (st : h.StaysIn h') : News h₀ L h' news := fun p hp => ⟨st _ _ (N p hp).1, (N p hp).2⟩

theorem use_int {z : Int} (S : Says w p loose mean mg mb f k vs (RetI z)) (B : Below A₀ base outer h₀) (F : Fr h₀ L s.heap m) (X : (hd.heap_39 w.params).In h₀) (N : News h₀ L s.heap news) (T : Top p loose mean mg mb h₀) (hk : cs.kind = .function)
    (hdp : dp + k < recursionLimit) (hun : un + 8 * k < cLine) (ret : ∀ t h' tk', Fr h₀ L h' m → News h₀ L h' news → Q (.int z t) { s with heap := h', toks := tk' }) :
    wpAny (model Challenge.rw_pe0078_01.row.prog w) (ktrTop dp un gd cn cs L a ccd cl outer) (call (.ref f) vs) Q E s :=
  S _ _ _ _ _ _ _ _ _ _ _ _ _ _ _ _ _ B F X T hk hdp hun fun v h' tk' st ⟨t, e⟩ => by rw [e]; exact ret t h' tk' (fr_stays F st) (news_stays N st)
theorem use_str {z : Str} (S : Says w p loose mean mg mb f k vs (RetS z)) (B : Below A₀ base outer h₀) (F : Fr h₀ L s.heap m) (X : (hd.heap_39 w.params).In h₀) (N : News h₀ L s.heap news) (T : Top p loose mean mg mb h₀) (hk : cs.kind = .function)
    (hdp : dp + k < recursionLimit) (hun : un + 8 * k < cLine) (ret : ∀ t h' tk', Fr h₀ L h' m → News h₀ L h' news → Q (.str z t) { s with heap := h', toks := tk' }) :
    wpAny (model Challenge.rw_pe0078_01.row.prog w) (ktrTop dp un gd cn cs L a ccd cl outer) (call (.ref f) vs) Q E s :=
  S _ _ _ _ _ _ _ _ _ _ _ _ _ _ _ _ _ B F X T hk hdp hun fun v h' tk' st ⟨t, e⟩ => by rw [e]; exact ret t h' tk' (fr_stays F st) (news_stays N st)
theorem use_tup {x y z : Str} (S : Says w p loose mean mg mb f k vs (RetT x y z)) (B : Below A₀ base outer h₀) (F : Fr h₀ L s.heap m) (X : (hd.heap_39 w.params).In h₀) (N : News h₀ L s.heap news) (T : Top p loose mean mg mb h₀) (hk : cs.kind = .function)
    (hdp : dp + k < recursionLimit) (hun : un + 8 * k < cLine)
    (ret : ∀ a t1 t2 t3 n h' tk', Fr h₀ L h' m → News h₀ L h' ((a, { cls := .type "tuple", data := .seq #[.str x t1, .str y t2, .str z t3] n }) :: news) → Q (.ref a) { s with heap := h', toks := tk' }) :
    wpAny (model Challenge.rw_pe0078_01.row.prog w) (ktrTop dp un gd cn cs L a ccd cl outer) (call (.ref f) vs) Q E s :=
  S _ _ _ _ _ _ _ _ _ _ _ _ _ _ _ _ _ B F X T hk hdp hun fun v h' tk' st ⟨a, t1, t2, t3, n, e, hf, ho⟩ => by
    rw [e]
    refine ret a t1 t2 t3 n h' tk' (fr_stays F st) fun p hp => ?_
    rcases List.mem_cons.mp hp with rfl | hp
    · refine ⟨ho, fun q => ?_, ?_⟩
      · obtain ⟨oL, _, _, hL, _⟩ := F.ns
        rw [show a = L from q, hL] at hf; cases hf
      · cases q : h₀.get? a with
        | none => rfl
        | some o => rw [F.keep _ _ q] at hf; cases hf
    · exact news_stays N st p hp
end

-- part Form1
local macro_rules | `(tactic| walk_at "call ref") => `(tactic| ((with_reducible show wpAny _ _ (call (Value.ref 42) [Value.str (tx _) _, Value.int _ _]) _ _ _); refine' use_tup (says_parts ?l1 ?l2) ?k1 ?k2 ?k3 ?k4 ?k5 ?k6 ?k7 ?k8 ?_; (case l1 => (first | assumption | omega)); (case l2 => (first | assumption | (simp only [tx_len] at *; omega))); (case k1 => k_asm); (case k2 => k_asm); (case k3 => k_asm); (case k4 => k_asm); (case k5 => k_asm); (case k6 => first | exact rfl | assumption); (case k7 => ktr_room); (case k8 => ktr_units); k_whole; (intro aT tT1 tT2 tT3 nT h' tk' F' N'); (try dsimp only); (try k_fold)))

theorem says_form {w : World} {p loose mean mg mb} {l : List Nat} {n : Int} {t1 t2 : Tok} (hl : l.length ≤ 9) :
    Says w p loose mean mg mb 49 2 [.str (tx l) t1, .int n t2] (RetS (tx (formL l n))) := by
  have hx : (tx l).length ≤ 9 := by rw [tx_len]; exact hl
  have q1 : (tx (l.take (frontN n))).length ≤ 9 := by rw [tx_len, List.length_take]; omega
  have q2 : (tx (l.drop (l.length - backN n))).length ≤ 9 := by rw [tx_len, List.length_drop]; omega
  unfold Says
  k_fill
  refine' says_of [(Str.ofString "text", .str (tx l) t1), (Str.ofString "width", .int n t2)] ?ho ?hcd ?hbind ?hloc ?hco ?hgen ?hk ?hcell ?hk0 ?_
  walk_at "MINE body"
  intro dp un gd cn cs a ccd cl outer base g L L' h₁ tk s F N B X T hdp hun
  (try dsimp only); (try k_lift B); (try k_fold)
  k_steps
  all_goals (try k_unfold)
  all_goals ((try dsimp only); refine ends_str (by k_asm) ?_)
  · unfold formL; rw [if_pos (by rw [← tx_len]; assumption)]
  · rw [tx_three, tx_append, tx_append]; unfold formL; rw [if_neg (by rw [← tx_len]; assumption)]

-- part Due1
theorem cnt_dots : ∀ v : List Nat, cnt 46 v = (dots v : Int)
  | [] => rfl
  | y :: v => by
    rw [cnt_cons, cnt_dots v, dots_cons]
    split <;> omega
theorem count_dots (v : List Nat) : Txt.count (tx v) (Str.ofString ".") = (dots v : Int) := by
  have e : Str.ofString "." = ⟨#[46]⟩ := by decide +kernel
  rw [e, count_is, ← cnt_dots v]
  rfl

theorem due_last {l : List Nat} {n k : Int} (h : n ≠ k) (h2 : ¬ k < (l.length : Int)) : dueL l n k = 2 * (((leftL l n).length : Int) - (min (dots (leftL l n)) 3 : Nat)) := by
  unfold dueL
  rw [if_neg h, if_neg h2]

theorem says_due {w : World} {p loose mean mg mb} {l : List Nat} {n k : Int} {t1 t2 t3 : Tok} (hl : l.length ≤ 9) (hn : n ≤ k) (hk : k ≤ l.length) :
    Says w p loose mean mg mb 56 2 [.str (tx l) t1, .int n t2, .int k t3] (RetI (dueL l n k)) := by
  have hx : (tx l).length ≤ 9 := by rw [tx_len]; exact hl
  have hkx : k ≤ (tx l).length := by rw [tx_len]; exact hk
  have q1 : (tx (leftL l n)).length ≤ 9 := by rw [tx_len]; unfold leftL; rw [List.length_drop, List.length_take]; omega
  unfold Says
  k_fill
  refine' says_of [(Str.ofString "text", .str (tx l) t1), (Str.ofString "less", .int n t2), (Str.ofString "more", .int k t3)] ?ho ?hcd ?hbind ?hloc ?hco ?hgen ?hk ?hcell ?hk0 ?_
  walk_at "MINE body"
  intro dp un gd cn cs a ccd cl outer base g L L' h₁ tk s F N B X T hdp hun
  (try dsimp only); (try k_lift B); (try k_fold)
  k_steps
  all_goals (try k_unfold)
  all_goals ((try dsimp only); refine ends_int (by k_asm) ?_)
  · unfold dueL; rw [if_pos (by assumption)]
  · unfold dueL; rw [if_neg (by assumption), if_pos (by rw [← tx_len]; assumption)]
  · rw [due_last (by assumption) (by rw [← tx_len]; assumption), count_dots, tx_len]
    split <;> omega

-- part Cut
/-- the walk stands still here -/
def Halt (P : Prop) : Prop := P
theorem halt {P : Prop} (h : Halt P) : P := h

/-- what is known between two statements -/
def Mid {σ : Type} (g : Heap) (L : Addr) (s : Shared) (led : σ → List (Addr × Obj)) (ps : σ → List (Str × Value)) (P : σ → Prop) (fl : Flow) (s' : Shared) : Prop :=
  fl = .next ∧ ∃ c h tk m, s' = { s with heap := h, toks := tk } ∧ Fr g L h m ∧ (∀ p ∈ ps c, m p.1 = some p.2) ∧ News g L h (led c) ∧ P c
theorem mid_end {σ : Type} {g : Heap} {L : Addr} {s : Shared} {led : σ → List (Addr × Obj)} {ps : σ → List (Str × Value)} {P : σ → Prop} {h : Heap} {tk : Nat} {m : Str → Option Value} (c : σ)
    (F : Fr g L h m) (N : News g L h (led c)) (hk : ∀ p ∈ ps c, m p.1 = some p.2) (hp : P c) : Mid g L s led ps P .next { s with heap := h, toks := tk } :=
  ⟨rfl, c, h, tk, m, rfl, F, hk, N, hp⟩
theorem fr_known {g h : Heap} {L : Addr} {m : Str → Option Value} {ps : List (Str × Value)} (F : Fr g L h m) (hk : ∀ p ∈ ps, m p.1 = some p.2) : Fr g L h (kstB m ps) := by
  have e : kstB m ps = m := funext fun z => kstB_eq hk fun _ => rfl
  rw [e]; exact F
theorem cut {σ : Type} {M : Model} {A : Around} {E : Value → Shared → Prop} {Q : Flow → Shared → Prop} {t : Sem Flow} {g : Heap} {L : Addr} {s s₁ : Shared} (led : σ → List (Addr × Obj)) (ps : σ → List (Str × Value)) (P : σ → Prop)
    (h1 : wpAny M A t (Mid g L s led ps P) E s₁)
    (h2 : ∀ c h tk m, P c → Fr g L h (kstB m (ps c)) → News g L h (led c) → Q .next { s with heap := h, toks := tk }) : wpAny M A t Q E s₁ := by
  refine wpAny_mono h1 (fun fl s' hm => ?_) fun _ _ x => x
  obtain ⟨rfl, c, h, tk, m, rfl, F, hk, N, hp⟩ := hm
  exact h2 c h tk m hp (fr_known F hk) N

theorem execs_wp {σ : Type} {M : Model} {A : Around} {E : Value → Shared → Prop} {Q : Flow → Shared → Prop} {g : Heap} {L : Addr} {s : Shared} {env : Env} {led : σ → List (Addr × Obj)} {ps : σ → List (Str × Value)} {P : σ → Prop} {rest : List Stmt}
    (h2 : ∀ c h tk m, P c → Fr g L h (kstB m (ps c)) → News g L h (led c) → wpAny M A (execs rest env) Q E { s with heap := h, toks := tk }) :
    ∀ (pre : List Stmt) (s₁ : Shared) (Γ : Ctx) (p : Pos), Γ.In A → Sem.wp M Γ (execs pre env) (fun a _ s' => Mid g L s led ps P a s') (fun e _ s' => E e s') p s₁ →
      Sem.wp M Γ (execs (pre ++ rest) env) (fun a _ s' => Q a s') (fun e _ s' => E e s') p s₁
  | [], s₁, Γ, p, hΓ, h => by
    have hm : Mid g L s led ps P .next s₁ := h
    obtain ⟨_, c, h₁, tk, m, rfl, F, hk, N, hp⟩ := hm
    exact h2 c h₁ tk m hp (fr_known F hk) N Γ p hΓ
  | st :: pre, s₁, Γ, p, hΓ, h => by
    rw [execs_cons, Sem.wp_bind'] at h
    rw [List.cons_append, execs_cons, Sem.wp_bind']
    refine Sem.wp_mono M Γ _ (fun f p' s' h' => ?_) (fun _ _ _ h' => h') _ _ h
    cases f with
    | next => exact execs_wp h2 pre s' Γ p' hΓ h'
    | ret v => exact absurd (show Mid g L s led ps P (.ret v) s' from h').1 (by intro e; cases e)
    | brk => exact absurd (show Mid g L s led ps P .brk s' from h').1 (by intro e; cases e)
    | cont => exact absurd (show Mid g L s led ps P .cont s' from h').1 (by intro e; cases e)
/-- two statements, what is known behind them, the rest -/
theorem cut2 {σ : Type} {M : Model} {A : Around} {E : Value → Shared → Prop} {Q : Flow → Shared → Prop} {g : Heap} {L : Addr} {s s₁ : Shared} {env : Env} {st1 st2 : Stmt} {rest : List Stmt} (led : σ → List (Addr × Obj)) (ps : σ → List (Str × Value)) (P : σ → Prop)
    (h1 : wpAny M A (execs [st1, st2] env) (Mid g L s led ps P) E s₁)
    (h2 : ∀ c h tk m, P c → Fr g L h (kstB m (ps c)) → News g L h (led c) → wpAny M A (execs rest env) Q E { s with heap := h, toks := tk }) : wpAny M A (execs (st1 :: st2 :: rest) env) Q E s₁ :=
  fun Γ p hΓ => execs_wp h2 [st1, st2] s₁ Γ p hΓ (h1 Γ p hΓ)

theorem item_tx {l : List Nat} {i : Int} (h0 : 0 ≤ i) (h1 : i < l.length) : Txt.item (tx l) i = one (l.getD i.toNat 0) := by
  have := eq_of_beq (item_closes (x := tx l) ⟨h0, by rw [tx_len]; exact h1⟩)
  rw [this]
  simp [tx, one, ← Array.getElem?_toList, Array.getD_eq_getD_getElem?, List.getD_eq_getElem?_getD]
theorem item_neg {l : List Nat} {i : Int} (h0 : i < 0) (h1 : -(l.length : Int) ≤ i) : Txt.item (tx l) i = one (l.getD (l.length + i).toNat 0) := by
  have := eq_of_beq (item_closes_neg (x := tx l) (i := i) (j := i + l.length) h0 (by rw [tx_len]; exact h1) (by rw [tx_len]))
  rw [this, Int.add_comm]
  simp [tx, one, ← Array.getElem?_toList, Array.getD_eq_getD_getElem?, List.getD_eq_getElem?_getD]
theorem one_beq (a b : Nat) : (one a == one b) = decide (a = b) := tx_beq [a] [b] |>.trans (by simp)

-- part Lev1
local macro_rules | `(tactic| walk_at "exec While BoolOp cons nil") => `(tactic| refine halt ?_)
local macro_rules | `(tactic| walk_at "exec For Name Call cons nil") => `(tactic| ((rename Fr _ _ _ _ => lF'); (with_unfolding_all refine' For_invVF lF' ?k1 ?k2 ?_; (case k1 => exact rfl); (case k2 => exact rfl); k_whole)))
local macro_rules | `(tactic| walk_at "pyIter ref") => `(tactic| ((with_reducible show wpAny _ _ (pyIter (Value.ref _)) (fun it s₂ => LoopAtV _ _ _ _ _ _ _ _ _ it s₂) _ _); refine halt ?_))
local macro_rules | `(tactic| walk_at "exec If") => `(tactic| ((with_reducible show wpAny _ _ (exec (Stmt.If (Expr.Compare (Expr.Call _ _ _ _) [CmpOp.Lt] _ _) _ _ _) _) _ _ _); refine halt ?_))

local macro_rules | `(tactic| walk_at "subscriptTail Name Slice str ref") => `(tactic| ((with_reducible show wpAny _ _ (subscriptTail _ (Expr.Slice none (some (Expr.BoolOp _ _ _)) none _) _ _) _ _ _); (with_reducible rename Fr _ _ _ _ => F'); (with_reducible rename News _ _ _ _ => N'); refine slice_strN_nn_len (s := ⟨_, _, _, _, _⟩) F' N' ?_; intro _ _ _ _ _ _))

def RetD (d c : Int) (v : Value) (_ _ : Heap) : Prop := ∃ z t, v = .int z t ∧ (z = d ∨ (z = c + 1 ∧ c < d))
theorem ends_d {g h : Heap} {L : Addr} {m : Str → Option Value} {s : Shared} {y d c : Int} {t : Tok} {tk : Nat} (F : Fr g L h m) (e : y = d ∨ (y = c + 1 ∧ c < d)) : Ends g s (RetD d c) (.ret (.int y t)) { s with heap := h, toks := tk } :=
  ends_ret F ⟨y, t, rfl, e⟩

theorem pre_turn {la lb : List Nat} {k : Int} (h0 : 0 ≤ k) (h : la.take k.toNat = lb.take k.toNat) (hA : ((Txt.slice (tx la) (some k) none).length : Int) ≠ 0) (hB : ((Txt.slice (tx lb) (some k) none).length : Int) ≠ 0)
    (hE : (Txt.item (tx la) k == Txt.item (tx lb) k) = true) : 0 ≤ k + 1 ∧ k + 1 ≤ la.length ∧ k + 1 ≤ lb.length ∧ la.take (k + 1).toNat = lb.take (k + 1).toNat := by
  rw [slice_from h0, tx_len, List.length_drop] at hA hB
  have ha : k < la.length := by omega
  have hb : k < lb.length := by omega
  rw [item_tx h0 ha, item_tx h0 hb, one_beq, decide_eq_true_eq, List.getD_eq_getElem?_getD, List.getD_eq_getElem?_getD] at hE
  have e : (k + 1).toNat = k.toNat + 1 := by omega
  refine ⟨by omega, by omega, by omega, ?_⟩
  rw [e, List.take_add_one, List.take_add_one, h]
  rw [List.getElem?_eq_getElem (by omega), List.getElem?_eq_getElem (by omega)] at hE ⊢
  simp only [Option.getD_some] at hE
  rw [hE]
theorem pre_less {la : List Nat} {k : Int} (h0 : 0 ≤ k) (hA : ((Txt.slice (tx la) (some k) none).length : Int) ≠ 0) : la.length - (k + 1).toNat < la.length - k.toNat := by
  rw [slice_from h0, tx_len, List.length_drop] at hA
  omega
theorem pre_done {la lb : List Nat} {k : Int} (h : la.take k.toNat = lb.take k.toNat) : D (la.drop k.toNat) (lb.drop k.toNat) = D la lb := by
  calc D (la.drop k.toNat) (lb.drop k.toNat) = D (la.take k.toNat ++ la.drop k.toNat) (la.take k.toNat ++ lb.drop k.toNat) := (D_front _ _ _).symm
    _ = D la lb := by rw [List.take_append_drop, h, List.take_append_drop]

def rowI (n : Nat) : List Int := (List.range n).map fun (i : Nat) => 2 + (i : Int) * 2
theorem rowI_ints {vs : List Value} {n : Nat} (hl : vs.length = n) (h : ∀ (j : Nat) (v : Value), vs[j]? = some v → ∃ t, v = .int (2 + j * 2) t) : IntsAre vs (rowI n) := by
  have gen : ∀ (vs : List Value) (f : Nat → Int), (∀ (j : Nat) (v : Value), vs[j]? = some v → ∃ t, v = .int (f j) t) → IntsAre vs ((List.range vs.length).map f) := by
    intro vs
    induction vs with
    | nil => intro f _; exact IntsAre.nil
    | cons v r ih =>
      intro f h
      obtain ⟨t, rfl⟩ := h 0 v rfl
      rw [List.length_cons, List.range_succ_eq_map, List.map_cons, List.map_map]
      exact IntsAre.cons _ _ (ih (f ∘ Nat.succ) fun j v hj => h (j + 1) v hj)
  subst hl
  exact gen vs _ h
theorem small_two (n : Nat) (hz : n ≤ 9) : Builtin.Range.small 2 (2 * ((n : Int) + 1)) 2 = true := by
  have : n = 0 ∨ n = 1 ∨ n = 2 ∨ n = 3 ∨ n = 4 ∨ n = 5 ∨ n = 6 ∨ n = 7 ∨ n = 8 ∨ n = 9 := by omega
  rcases this with rfl | rfl | rfl | rfl | rfl | rfl | rfl | rfl | rfl | rfl <;> decide +kernel
theorem row_list {prog : Program} {w : World} {A : Around} {E : Value → Shared → Prop} {s : Shared} {h₀ : Heap} {L r : Addr} {m : Str → Option Value} {news : List (Addr × Obj)} {n : Nat} {t₀ u₀ v₀ : Tok} {Q : Value → Shared → Prop}
    (hh : A.handled = none) (F : Fr h₀ L s.heap m) (N : News h₀ L s.heap news) (hr : IsRange s.heap r 2 (2 * ((n : Int) + 1)) 2 t₀ u₀ v₀) (hz : n ≤ 9)
    (h : ∀ D us c h' tk, Fr h₀ L h' m → News h₀ L h' ((D, listOf (List.toArray us) c) :: news) → (∀ p ∈ news, p.1 < D) → IntsAre us (rowI n) → Q (.ref D) { s with heap := h', toks := tk }) :
    wpAny (model prog w) A (call (.type "list") [.ref r]) Q E s := by
  have hn : Builtin.Range.rangeSize 2 (2 * ((n : Int) + 1)) 2 = (n : Int) := by
    unfold Builtin.Range.rangeSize
    simp only [show (2 : Int) > 0 by decide, if_true]
    split <;> omega
  have hs := small_two n hz
  refine call_list_range hh hr hs hn (by omega) fun h' tk acc c hk hD hI => ?_
  have hD' : h'.get? s.heap.objs.size = some (listOf (List.toArray acc.toList) c) := by
    rw [Array.toArray_toList]
    exact hD
  exact h _ acc.toList c h' tk (F.keeps hk) (news_pushed F N hk hD' rfl) (fun p hp => Heap.lt_size (N p hp).1) (rowI_ints (by rw [Array.length_toList]; exact hI.1) fun j v hj => hI.2 j v (by rw [← hj, Array.getElem?_toList]))

/-- a row of the table: the first i places are the next row's -/
def rowM (a b : List Nat) (j i : Nat) : List Int := (List.range a.length).map fun k => if k < i then D (a.take (k + 1)) (b.take (j + 1)) else D (a.take (k + 1)) (b.take j)
theorem rowM_start (a b : List Nat) : rowI a.length = rowM a b 0 0 := by
  unfold rowI rowM
  refine List.map_congr_left fun k hk => ?_
  rw [List.mem_range] at hk
  rw [if_neg (Nat.not_lt_zero _), List.take_zero, D_right, List.length_take]
  omega
theorem rowM_next (a b : List Nat) (j : Nat) : rowM a b j a.length = rowM a b (j + 1) 0 := by
  unfold rowM
  refine List.map_congr_left fun k hk => ?_
  rw [List.mem_range] at hk
  rw [if_pos hk, if_neg (Nat.not_lt_zero _)]
theorem rowM_len (a b : List Nat) (j i : Nat) : (rowM a b j i).length = a.length := by simp [rowM]
theorem rowM_at {a b : List Nat} {j i : Nat} (h : i < a.length) : (rowM a b j i).getD i 0 = D (a.take (i + 1)) (b.take j) := by
  unfold rowM
  rw [List.getD_eq_getElem?_getD, List.getElem?_map, List.getElem?_range h]
  simp
theorem rowM_set {a b : List Nat} {j i : Nat} (h : i < a.length) : (rowM a b j i).set i (D (a.take (i + 1)) (b.take (j + 1))) = rowM a b j (i + 1) := by
  refine List.ext_getElem? fun k => ?_
  rw [List.getElem?_set]
  unfold rowM
  by_cases hk : i = k
  · subst hk
    rw [if_pos rfl, List.length_map, List.length_range, if_pos h, List.getElem?_map, List.getElem?_range h]
    simp
  · rw [if_neg hk, List.getElem?_map, List.getElem?_map]
    by_cases hl : k < a.length
    · rw [List.getElem?_range hl]
      simp only [Option.map_some]
      congr 1
      by_cases h1 : k < i
      · rw [if_pos h1, if_pos (by omega)]
      · rw [if_neg h1, if_neg (by omega)]
    · rw [List.getElem?_eq_none (by simpa using hl)]; rfl

theorem rowM_start' (a b : List Nat) : rowI (tx a).length = rowM a b 0 0 := by rw [tx_len]; exact rowM_start a b
/-- what holds in the inner loop -/
def Inner (a b : List Nat) (j i : Nat) (distance result minimum : Int) (row : List Int) : Prop :=
  distance = D (a.take i) (b.take j) ∧ ((i = 0 ∧ result = 2 * (j : Int)) ∨ (0 < i ∧ result = D (a.take i) (b.take (j + 1)))) ∧ (∀ k, k < i → minimum ≤ D (a.take (k + 1)) (b.take (j + 1))) ∧ row = rowM a b j i

theorem inner_start {a b : List Nat} {j : Nat} {d m : Int} {row : List Int} (hd : d = 2 * (j : Int)) (hb : j ≤ (tx b).length) (hrow : row = rowM a b j 0) : Inner a b j 0 d d m row := by
  refine ⟨?_, .inl ⟨rfl, hd⟩, fun k hk => absurd hk (Nat.not_lt_zero _), hrow⟩
  rw [tx_len] at hb
  rw [hd, List.take_zero, D_nil, List.length_take]
  omega

theorem inner_step {a b : List Nat} {j i n : Nat} {kn kj d r m m' res : Int} {row : List Int} (h : Inner a b j i d r m row) (hi : i < (tx a).length) (hj : j < (tx b).length) (hkn : kn = 0 + (i : Int)) (hkj : kj = 0 + (j : Int)) (hn : n = i + 1)
    (hres : res = if d + cst (b.getD kj.toNat 0) (a.getD kn.toNat 0) < (if row.getD kn.toNat 0 < r then row.getD kn.toNat 0 else r) + 2 then d + cst (b.getD kj.toNat 0) (a.getD kn.toNat 0) else (if row.getD kn.toNat 0 < r then row.getD kn.toNat 0 else r) + 2)
    (hm1 : m' ≤ m) (hm2 : m' ≤ res) : (row.set kn.toNat res).length = (tx a).length ∧ Inner a b j n (row.getD kn.toNat 0) res m' (row.set kn.toNat res) := by
  obtain ⟨h1, h2, h3, h4⟩ := h
  rw [tx_len] at hi hj
  have en : kn.toNat = i := by omega
  have ej : kj.toNat = j := by omega
  subst hn
  rw [en, ej] at hres
  rw [en]
  subst h4
  rw [rowM_at hi] at hres ⊢
  have hx : a[i]? = some (a.getD i 0) := by rw [List.getD_eq_getElem?_getD, List.getElem?_eq_getElem hi]; rfl
  have hy : b[j]? = some (b.getD j 0) := by rw [List.getD_eq_getElem?_getD, List.getElem?_eq_getElem hj]; rfl
  have step := D_step hx hy
  have c2 := cst_le (b.getD j 0) (a.getD i 0)
  have er : res = D (a.take (i + 1)) (b.take (j + 1)) := by
    rw [hres, step, h1]
    rcases h2 with ⟨i0, hr⟩ | ⟨i0, hr⟩
    · subst i0
      have e1 : D (a.take 0) (b.take (j + 1)) = 2 * ((j : Int) + 1) := by rw [List.take_zero, D_nil, List.length_take]; omega
      have e2 : D (a.take 0) (b.take j) = 2 * (j : Int) := by rw [List.take_zero, D_nil, List.length_take]; omega
      rw [e1, e2, hr]
      (repeat' split) <;> omega
    · rw [hr]
      (repeat' split) <;> omega
  refine ⟨by rw [List.length_set, rowM_len, tx_len], rfl, .inr ⟨Nat.succ_pos _, er⟩, fun k hk => ?_, ?_⟩
  · by_cases hki : k = i
    · subst hki; rw [← er]; exact hm2
    · exact Int.le_trans hm1 (h3 k (by omega))
  · rw [er]; exact rowM_set hi
theorem inner_exit {a b : List Nat} {j n : Nat} {d r m c : Int} {row : List Int} (h : Inner a b j n d r m row) (hn : n = a.length) (ha : 0 < a.length) (hj : j < (tx b).length) (hc : c < m) : c < D a b := by
  obtain ⟨_, _, h3, _⟩ := h
  subst hn
  rw [tx_len] at hj
  have := D_row (c := m) (fun e => by rw [e] at ha; exact absurd ha (Nat.lt_irrefl _)) hj h3
  omega
theorem inner_done {a b : List Nat} {j n k : Nat} {d r m : Int} {row : List Int} (h : Inner a b j n d r m row) (hn : n = a.length) (ha : 0 < a.length) (hk : k = j + 1) : row.length = (tx a).length ∧ row = rowM a b k 0 ∧ (k = 0 ∨ r = D a (b.take k)) := by
  obtain ⟨_, h2, _, h4⟩ := h
  subst hn
  subst hk
  refine ⟨by rw [h4, rowM_len, tx_len], by rw [h4, rowM_next], .inr ?_⟩
  rcases h2 with ⟨i0, _⟩ | ⟨_, hr⟩
  · omega
  · rw [List.take_length] at hr; exact hr
theorem outer_done {a b : List Nat} {n : Nat} {r : Int} (h : n = 0 ∨ r = D a (b.take n)) (hn : n = b.length) (hb : 0 < b.length) : r = D a b := by
  subst hn
  rcases h with h | h
  · omega
  · rw [List.take_length] at h; exact h
theorem rowI_len (n : Nat) : (rowI n).length = n := by simp [rowI]

theorem neg_len {l : List Nat} {post : Int} (h0 : post ≤ 0) (h1 : -post ≤ l.length) : post ≠ 0 → ((Txt.slice (tx l) none (some post)).length : Int) = (tx l).length + post := by
  intro h
  rw [slice_neg (by omega) (by omega), tx_len, tx_len, List.length_take]
  omega
theorem post_turn {u v : List Nat} {post : Int} (h0 : post ≤ 0) (ha : -(post - 1) ≤ ((tx u).length : Int)) (hb : -(post - 1) ≤ ((tx v).length : Int)) (h : u.drop (u.length + post).toNat = v.drop (v.length + post).toNat)
    (hE : (Txt.item (tx u) (post - 1) == Txt.item (tx v) (post - 1)) = true) : post - 1 ≤ 0 ∧ -(post - 1) ≤ u.length ∧ -(post - 1) ≤ v.length ∧ u.drop (u.length + (post - 1)).toNat = v.drop (v.length + (post - 1)).toNat := by
  rw [tx_len] at ha hb
  rw [item_neg (by omega) (by omega), item_neg (by omega) (by omega), one_beq, decide_eq_true_eq, List.getD_eq_getElem?_getD, List.getD_eq_getElem?_getD] at hE
  refine ⟨by omega, by omega, by omega, ?_⟩
  have e1 : (u.length + post).toNat = (u.length + (post - 1)).toNat + 1 := by omega
  have e2 : (v.length + post).toNat = (v.length + (post - 1)).toNat + 1 := by omega
  rw [e1, e2] at h
  rw [List.getElem?_eq_getElem (by omega), List.getElem?_eq_getElem (by omega)] at hE
  simp only [Option.getD_some] at hE
  rw [List.drop_eq_getElem_cons (by omega), List.drop_eq_getElem_cons (l := v) (by omega), h, hE]
theorem post_less {u : List Nat} {post : Int} (h0 : post ≤ 0) (ha : -(post - 1) ≤ ((tx u).length : Int)) : u.length - (-(post - 1)).toNat < u.length - (-post).toNat := by
  rw [tx_len] at ha
  omega

theorem post_done {u v : List Nat} {q : Int} (h : u.drop (u.length + q).toNat = v.drop (v.length + q).toNat) : D (u.take (u.length + q).toNat) (v.take (v.length + q).toNat) = D u v := by
  calc D (u.take (u.length + q).toNat) (v.take (v.length + q).toNat) = D (u.take (u.length + q).toNat ++ u.drop (u.length + q).toNat) (v.take (v.length + q).toNat ++ u.drop (u.length + q).toNat) := (D_back _ _ _).symm
    _ = D u v := by rw [List.take_append_drop, h, List.take_append_drop]

theorem says_subI {w : World} {p loose mean mg mb} {b a : List Nat} {j i : Int} {t1 t2 : Tok} (j0 : 0 ≤ j) (j1 : j < (tx b).length) (i0 : 0 ≤ i) (i1 : i < (tx a).length) (sb : ∀ x ∈ b, Sign x) (sa : ∀ x ∈ a, Sign x) :
    Says w p loose mean mg mb 28 1 [.str (Txt.item (tx b) j) t1, .str (Txt.item (tx a) i) t2] (RetI (cst (b.getD j.toNat 0) (a.getD i.toNat 0))) := by
  rw [tx_len] at j1 i1
  rw [item_tx j0 j1, item_tx i0 i1]
  refine says_sub (sb _ ?_) (sa _ ?_)
  · rw [List.getD_eq_getElem?_getD, List.getElem?_eq_getElem (by omega)]; exact List.getElem_mem _
  · rw [List.getD_eq_getElem?_getD, List.getElem?_eq_getElem (by omega)]; exact List.getElem_mem _
local macro_rules | `(tactic| walk_at "call ref") => `(tactic| ((with_reducible show wpAny _ _ (call (Value.ref 28) [Value.str (Txt.item (tx _) _) _, Value.str (Txt.item (tx _) _) _]) _ _ _); k_dflt (refine' use_int (says_subI ?l1 ?l2 ?l3 ?l4 ?l5 ?l6) ?k1 ?k2 ?k3 ?k4 ?k5 ?k6 ?k7 ?k8 ?_; (case l1 => omega); (case l2 => omega); (case l3 => omega); (case l4 => omega); (case l5 => assumption); (case l6 => assumption); (case k1 => k_asm); (case k2 => k_asm); (case k3 => k_asm); (case k4 => k_asm); (case k5 => k_asm); (case k6 => first | exact rfl | assumption); (case k7 => ktr_room); (case k8 => ktr_units); k_whole); (intro tC h' tk' F' N'); (try dsimp only); (try k_fold)))
local macro_rules | `(tactic| walk_at "call type:list") => `(tactic| ((with_reducible show wpAny _ _ (call (Value.type "list") [Value.ref _]) _ _ _); (rename IsRange _ _ _ _ _ _ _ _ => rgX); k_dflt (refine' row_list (n := Str.length (tx _)) ?k0 ?k1 ?k2 ?k3 ?k4 ?_; (case k0 => rfl); (case k1 => k_asm); (case k2 => k_asm); (case k3 => exact rgX); (case k4 => first | assumption | omega); k_whole); intro D' vs' c' h' tk' F' N' l1 hI'; (try k_lt l1); (try k_sweep)))

theorem says_lev {w : World} {p loose mean mg mb} {la lb : List Nat} {c : Int} {t1 t2 t3 : Tok} (hla : la.length ≤ 9) (hlb : lb.length ≤ 9) (sa : ∀ x ∈ la, Sign x) (sb : ∀ x ∈ lb, Sign x) :
    Says w p loose mean mg mb 35 2 [.str (tx la) t1, .str (tx lb) t2, .int c t3] (RetD (D la lb) c) := by
  have hx : (tx la).length ≤ 9 := by rw [tx_len]; exact hla
  have hy : (tx lb).length ≤ 9 := by rw [tx_len]; exact hlb
  unfold Says
  k_fill
  refine' says_of [(Str.ofString "a", .str (tx la) t1), (Str.ofString "b", .str (tx lb) t2), (Str.ofString "max_cost", .int c t3)] ?ho ?hcd ?hbind ?hloc ?hco ?hgen ?hk ?hcell ?hk0 ?_
  walk_at "MINE body"
  intro dp un gd cn cs a ccd cl outer base g L L' h₁ tk s F N B X T hdp hun
  (try dsimp only); (try k_lift B); (try k_fold)
  k_steps
  · (try dsimp only)
    refine ends_d (by k_asm) (.inl ?_)
    have e : (tx la == tx lb) = true := by assumption
    rw [tx_beq, decide_eq_true_eq] at e
    rw [e]
    exact Int.le_antisymm (D_len _ _).1 (D_self _)
  · unfold Halt
    refine cut (σ := Int × Tok) (g := g) (L := L') (s := s) (fun _ => []) (fun q => [(Str.ofString "a", .str (tx la) t1), (Str.ofString "b", .str (tx lb) t2), (Str.ofString "max_cost", .int c t3), (Str.ofString "pre", .int q.1 q.2)])
      (fun q => 0 ≤ q.1 ∧ q.1 ≤ la.length ∧ q.1 ≤ lb.length ∧ la.take q.1.toNat = lb.take q.1.toNat) ?_ ?_
    · k_with "state" => first | exact pre_turn (by assumption) (by assumption) (by assumption) (by assumption) (by assumption) | exact ⟨Int.le_refl 0, by omega, by omega, rfl⟩
      k_with "measure" => exact pre_less (by assumption) (by assumption)
      k_while (fun _ pre => 0 ≤ pre ∧ pre ≤ la.length ∧ pre ≤ lb.length ∧ la.take pre.toNat = lb.take pre.toNat) (fun _ pre => la.length - pre.toNat) "pre"
      k_steps
      k_with_none
      all_goals (refine mid_end (_, _) (by assumption) (by assumption) (by kst_all) ⟨by assumption, by assumption, by assumption, by assumption⟩)
    · rintro ⟨k, tk⟩ h tk' m ⟨k0, ka, kb, ke⟩ F N
      dsimp only [kstB] at F k0 ka kb ke
      (try dsimp only); (try k_fold)
      k_steps
      unfold Halt
      (rename Fr _ _ _ _ => F2)
      simp only [slice_from k0] at F2
      have eD := pre_done ke
      have hu : (la.drop k.toNat).length ≤ 9 := by rw [List.length_drop]; omega
      have hv : (lb.drop k.toNat).length ≤ 9 := by rw [List.length_drop]; omega
      have su : ∀ x ∈ la.drop k.toNat, Sign x := fun x hx => sa x (List.mem_of_mem_drop hx)
      have sv : ∀ x ∈ lb.drop k.toNat, Sign x := fun x hx => sb x (List.mem_of_mem_drop hx)
      generalize la.drop k.toNat = u at *
      generalize lb.drop k.toNat = v at *
      have hxu : (tx u).length ≤ 9 := by rw [tx_len]; exact hu
      have hxv : (tx v).length ≤ 9 := by rw [tx_len]; exact hv
      clear ke ka kb k0
      refine cut (σ := Int × Tok × Tok × Tok) (g := g) (L := L') (s := s) (fun _ => []) (fun q => [(Str.ofString "a", .str (tx u) q.2.2.1), (Str.ofString "b", .str (tx v) q.2.2.2), (Str.ofString "max_cost", .int c t3), (Str.ofString "post", .int q.1 q.2.1)])
        (fun q => q.1 ≤ 0 ∧ -q.1 ≤ u.length ∧ -q.1 ≤ v.length ∧ u.drop (u.length + q.1).toNat = v.drop (v.length + q.1).toNat) ?_ ?_
      · have slu := congrArg Str.length (slice_all u)
        have slv := congrArg Str.length (slice_all v)
        k_with "state" => first | exact post_turn (by assumption) (by omega) (by omega) (by assumption) (by assumption) | exact ⟨Int.le_refl 0, by omega, by omega, by simp⟩
        k_with "measure" => exact post_less (by assumption) (by omega)
        k_while (fun _ post => post ≤ 0 ∧ -post ≤ u.length ∧ -post ≤ v.length ∧ u.drop (u.length + post).toNat = v.drop (v.length + post).toNat) (fun _ post => u.length - (-post).toNat) "post"
        (rename (_ : Int) ≤ 0 => hp0)
        have nlu := neg_len (l := u) hp0 (by assumption)
        have nlv := neg_len (l := v) hp0 (by assumption)
        k_steps
        k_with_none
        all_goals (refine mid_end (_, _, _, _) (by assumption) (by assumption) (by kst_all) ⟨by assumption, by assumption, by assumption, by assumption⟩)
      · rintro ⟨q, tq, ta, tb⟩ h2 tk2 m2 ⟨q0, qu, qv, qe⟩ F N
        dsimp only [kstB] at F q0 qu qv qe
        (try dsimp only)
        refine cut2 (σ := List Nat × List Nat × Tok × Tok) (g := g) (L := L') (s := s) (fun _ => []) (fun r => [(Str.ofString "a", .str (tx r.1) r.2.2.1), (Str.ofString "b", .str (tx r.2.1) r.2.2.2), (Str.ofString "max_cost", .int c t3)])
          (fun r => r.1.length ≤ 9 ∧ r.2.1.length ≤ 9 ∧ (∀ x ∈ r.1, Sign x) ∧ (∀ x ∈ r.2.1, Sign x) ∧ D r.1 r.2.1 = D la lb) ?_ ?_
        · (try k_fold)
          k_steps
          all_goals (try (exfalso; omega))
          · (rename Fr _ _ _ _ => F9)
            simp only [slice_neg (show q < 0 by omega) (show -(u.length : Int) ≤ q by omega), slice_neg (show q < 0 by omega) (show -(v.length : Int) ≤ q by omega)] at F9
            refine mid_end (u.take (u.length + q).toNat, v.take (v.length + q).toNat, _, _) F9 (by assumption) (by kst_all) ⟨?_, ?_, fun x hx => su x (List.mem_of_mem_take hx), fun x hx => sv x (List.mem_of_mem_take hx), (post_done qe).trans eD⟩
            · show (u.take _).length ≤ 9; rw [List.length_take]; omega
            · show (v.take _).length ≤ 9; rw [List.length_take]; omega
          · (rename Fr _ _ _ _ => F9)
            simp only [slice_all] at F9
            exact mid_end (u, v, _, _) F9 (by assumption) (by kst_all) ⟨hu, hv, su, sv, eD⟩
        · rintro ⟨u', v', ta', tb'⟩ h3 tk3 m3 ⟨hu', hv', su', sv', eD'⟩ F N
          dsimp only [kstB] at F hu' hv' su' sv' eD'
          have hxu' : (tx u').length ≤ 9 := by rw [tx_len]; exact hu'
          have hxv' : (tx v').length ≤ 9 := by rw [tx_len]; exact hv'
          (try dsimp only); (try k_fold)
          k_steps
          · unfold Halt
            refine cut (σ := List Nat × List Nat × Tok × Tok) (g := g) (L := L') (s := s) (fun _ => []) (fun r => [(Str.ofString "a", .str (tx r.1) r.2.2.1), (Str.ofString "b", .str (tx r.2.1) r.2.2.2), (Str.ofString "max_cost", .int c t3)])
              (fun r => 0 < r.1.length ∧ r.1.length ≤ r.2.1.length ∧ r.2.1.length ≤ 9 ∧ (∀ x ∈ r.1, Sign x) ∧ (∀ x ∈ r.2.1, Sign x) ∧ D r.1 r.2.1 = D la lb) ?_ ?_
            · (try k_fold)
              refine wpAny_If ?_
              k_steps
              · refine mid_end (v', u', _, _) (by assumption) News.nil (by kst_all) ⟨?_, ?_, hu', sv', su', (D_symm _ _).trans eD'⟩
                · show 0 < v'.length; rw [← tx_len]; omega
                · show v'.length ≤ u'.length; rw [← tx_len, ← tx_len u']; omega
              · refine mid_end (u', v', _, _) (by assumption) (by assumption) (by kst_all) ⟨?_, ?_, hv', su', sv', eD'⟩
                · show 0 < u'.length; rw [← tx_len]; omega
                · show u'.length ≤ v'.length; rw [← tx_len, ← tx_len v']; omega
            · clear F N hx hy hxu hxv hu hv su sv eD q0 qu qv qe hxu' hxv' hu' hv' su' sv' eD'
              rintro ⟨a1, b1, ta1, tb1⟩ h4 tk4 m4 ⟨hp1, hle1, hb1, sa1, sb1, eD1⟩ F N
              dsimp only [kstB] at F hp1 hle1 hb1 sa1 sb1 eD1
              have hxa1 : (tx a1).length ≤ 9 := by rw [tx_len]; omega
              have hxb1 : (tx b1).length ≤ 9 := by rw [tx_len]; exact hb1
              (try dsimp only); (try k_fold)
              k_steps
              · (try k_unfold)
                (try dsimp only)
                refine ends_d (by k_asm) (.inr ⟨rfl, ?_⟩)
                have q := (D_len a1 b1).2.1
                rw [← eD1]
                simp only [tx_len] at *
                omega
              · unfold Halt
                k_with "state" => exact ⟨rowI_len _, rowM_start' a1 b1, .inl rfl⟩
                k_state (fun pre row result => row.length = (tx a1).length ∧ row = rowM a1 b1 pre.length 0 ∧ (pre.length = 0 ∨ result = D a1 (b1.take pre.length))) "row" "result"
                k_with_none
                · k_steps
                  unfold Halt
                  obtain ⟨j, hj⟩ : ∃ j : Nat, kPre.length = j := ⟨_, rfl⟩
                  k_with "state" => exact ⟨by assumption, inner_start (by omega) (by omega) (by rw [← hj]; assumption)⟩
                  k_state (fun pre distance result minimum row => row.length = (tx a1).length ∧ Inner a1 b1 j pre.length distance result minimum row) "distance" "result" "minimum" "row"
                  k_with_none
                  · k_with "state" => exact inner_step (by assumption) (by omega) (by omega) (by assumption) (by omega) (by simp) rfl (by first | exact Int.le_refl _ | exact Int.le_of_lt (by assumption) | exact Int.not_lt.mp (by assumption)) (by first | exact Int.le_refl _ | exact Int.le_of_lt (by assumption) | exact Int.not_lt.mp (by assumption))
                    k_steps
                    k_with_none
                  · k_with "state" => exact inner_done (by assumption) (by rw [rangeKs_length, tx_len]; omega) hp1 (by rw [List.length_append, hj]; rfl)
                    k_steps
                    k_with_none
                    (try k_unfold)
                    (try dsimp only)
                    refine ends_d (by k_asm) (.inr ⟨rfl, ?_⟩)
                    rw [← eD1]
                    exact inner_exit (by assumption) (by rw [rangeKs_length, tx_len]; omega) hp1 (by omega) (by assumption)
                · k_steps
                  (try k_unfold)
                  (try dsimp only)
                  refine ends_d (by k_asm) (.inl ?_)
                  rw [← eD1]
                  exact outer_done (by assumption) (by rw [rangeKs_length, tx_len]; omega) (by omega)
          · (try k_unfold)
            (try dsimp only)
            refine ends_d (by k_asm) (.inl ?_)
            rw [← eD']
            simp only [tx_len] at *
            have e0 : v' = [] := List.eq_nil_of_length_eq_zero (by omega)
            rw [e0, D_right]; simp
          · (try k_unfold)
            (try dsimp only)
            refine ends_d (by k_asm) (.inl ?_)
            rw [← eD']
            simp only [tx_len] at *
            have e0 : u' = [] := List.eq_nil_of_length_eq_zero (by omega)
            rw [e0, D_nil]; simp

-- part Law1
local macro_rules | `(tactic| walk_at "eval ListComp") => `(tactic| (k_dflt (refine LCg.ListComp_U (F₀ := by k_asm) (by with_unfolding_all rfl) (by decide) (by rfl) (by decide) (by rfl) ?_)))
local macro_rules | `(tactic| walk_at "CompSrc") => `(tactic| (refine halt ?_))

def sgn (k : Int) : Nat := if k % 4 = 0 then 97 else if k % 4 = 1 then 46 else if k % 4 = 2 then 65 else 98
theorem sgn_sign (k : Int) : Sign (sgn k) := by
  unfold sgn Sign
  (repeat' split) <;> simp

theorem item_menu (k : Int) : Txt.item (Str.ofString "a.Ab") (k.fmod 4) = one (sgn k) := by
  have e : k.fmod 4 = k % 4 := Int.fmod_eq_emod_of_nonneg k (by decide)
  have h0 : 0 ≤ k % 4 := by omega
  have h4 : k % 4 < 4 := by omega
  rw [e]
  unfold sgn
  generalize k % 4 = q at *
  have : q = 0 ∨ q = 1 ∨ q = 2 ∨ q = 3 := by omega
  rcases this with rfl | rfl | rfl | rfl <;> decide +kernel
/-- the law's text -/
def txt (ns : List Int) : List Nat := ((ns.take 9).map sgn ++ [97, 46, 98]).take 9
theorem join_ones : ∀ l : List Nat, Str.join (tx []) (l.map one) = tx l
  | [] => rfl
  | [a] => rfl
  | a :: b :: r => by
    have ih := join_ones (b :: r)
    rw [List.map_cons] at ih ⊢
    rw [List.map_cons, Str.join]
    rw [ih]
    show tx [a] ++ tx [] ++ tx (b :: r) = tx (a :: b :: r)
    rw [tx_append, tx_append]
    rfl
    intro e; cases e
theorem slice_to' {l : List Nat} {j : Int} (h : 0 ≤ j) : Txt.slice (tx l) none (some j) = tx (l.take j.toNat) := by
  by_cases h2 : j ≤ l.length
  · exact slice_to h h2
  · have e : Txt.slice (tx l) none (some j) = Txt.slice (tx l) none none := by
      unfold Txt.slice
      have q : Builtin.Str.strSliceIndices none (some j) 1 (tx l).length = Builtin.Str.strSliceIndices none none 1 (tx l).length := by
        rw [tx_len]
        unfold Builtin.Str.strSliceIndices
        have a1 : ¬ j < 0 := by omega
        have a2 : max 0 (min j (l.length : Int)) = (l.length : Int) := by omega
        simp only [a1, if_false, show (1 : Int) > 0 by decide, if_true, a2]
      rw [q]
    rw [e, slice_all, List.take_of_length_le (by omega)]
theorem text_is (ns : List Int) : Txt.slice (Txt.join (Str.ofString "") (List.map (fun a => one (sgn a)) (List.take 9 ns)) ++ Str.ofString "a.b") none (some 9) = tx (txt ns) := by
  have e1 : List.map (fun a => one (sgn a)) (List.take 9 ns) = ((ns.take 9).map sgn).map one := by rw [List.map_map]; rfl
  have e2 : Str.ofString "a.b" = tx [97, 46, 98] := by decide +kernel
  have e3 : Txt.join (tx []) (((ns.take 9).map sgn).map one) = tx ((ns.take 9).map sgn) := by
    unfold Txt.join
    rw [StrLaws.glued_eq_join, join_ones]
  rw [e1, tx_nil, e3, e2, tx_append, slice_to' (by decide)]
  rfl
theorem txt_len (ns : List Int) : 3 ≤ (txt ns).length ∧ (txt ns).length ≤ 9 := by
  unfold txt
  simp only [List.length_take, List.length_append, List.length_map, List.length_cons, List.length_nil]
  omega
theorem txt_sign (ns : List Int) : ∀ x ∈ txt ns, Sign x := by
  intro x hx
  unfold txt at hx
  have := List.mem_of_mem_take hx
  rcases List.mem_append.mp this with h | h
  · obtain ⟨k, _, rfl⟩ := List.mem_map.mp h
    exact sgn_sign k
  · unfold Sign
    simp only [List.mem_cons, List.not_mem_nil, or_false] at h
    rcases h with rfl | rfl | rfl <;> simp
local macro_rules | `(tactic| walk_at "exec Assign") => `(tactic| ((with_reducible show wpAny _ _ (exec (Stmt.Assign _ (Expr.Subscript (Expr.BinOp _ _ _ _) (Expr.Constant _ _ _) _) _) _) _ _ _); refine halt ?_))

theorem news_one {h₀ h : Heap} {L : Addr} {a b c : Addr × Obj} (N : News h₀ L h [a, b, c]) : News h₀ L h [c] := kst_newsOf N (by simp)
theorem news_two {h₀ h : Heap} {L : Addr} {a b c d e f g i j : Addr × Obj} (N : News h₀ L h [a, b, c, d, e, f, g, i, j]) : News h₀ L h [b, j] := kst_newsOf N (by simp)
theorem news_three {h₀ h : Heap} {L : Addr} {a b c : Addr × Obj} (N : News h₀ L h [a, b, c]) : News h₀ L h [a, b, c] := N
local macro_rules | `(tactic| walk_at "call ref") => `(tactic| ((with_reducible show wpAny _ _ (call (Value.ref 21) [Value.str (tx _) _, Value.int _ _]) _ _ _); k_dflt (refine' use_str (says_cram ?l1) ?k1 ?k2 ?k3 ?k4 ?k5 ?k6 ?k7 ?k8 ?_; (case l1 => assumption); (case k1 => k_asm); (case k2 => k_asm); (case k3 => k_asm); (case k4 => k_asm); (case k5 => k_asm); (case k6 => first | exact rfl | assumption); (case k7 => ktr_room); (case k8 => ktr_units); k_whole); (intro tC h' tk' F' N'); (try dsimp only); (try k_fold)))
local macro_rules | `(tactic| walk_at "call ref") => `(tactic| ((with_reducible show wpAny _ _ (call (Value.ref 49) [Value.str (tx _) _, Value.int _ _]) _ _ _); k_dflt (refine' use_str (says_form ?l1) ?k1 ?k2 ?k3 ?k4 ?k5 ?k6 ?k7 ?k8 ?_; (case l1 => assumption); (case k1 => k_asm); (case k2 => k_asm); (case k3 => k_asm); (case k4 => k_asm); (case k5 => k_asm); (case k6 => first | exact rfl | assumption); (case k7 => ktr_room); (case k8 => ktr_units); k_whole); (intro tC h' tk' F' N'); (try dsimp only); (try k_fold)))

theorem form_len {l : List Nat} {k : Int} (h3 : 3 ≤ l.length) (h9 : l.length ≤ 9) : (formL l k).length ≤ 9 := by
  unfold formL
  split
  · exact h9
  · have : three.length = 3 := rfl
    simp only [List.length_append, List.length_take, List.length_drop, this]
    unfold backN frontN
    omega
theorem form_sign {l : List Nat} {k : Int} (hs : ∀ x ∈ l, Sign x) : ∀ x ∈ formL l k, Sign x := by
  intro x hx
  unfold formL at hx
  split at hx
  · exact hs x hx
  · rcases List.mem_append.mp hx with h | h
    · rcases List.mem_append.mp h with h | h
      · exact hs x (List.mem_of_mem_take h)
      · unfold three at h
        simp only [List.mem_cons, List.not_mem_nil, or_false, or_self] at h
        exact .inr (.inl h)
    · exact hs x (List.mem_of_mem_drop h)
theorem use_d {w : World} {p : Program} {loose : List Str} {mean : ExcName → Option Value} {mg mb : Str → Option Value} {f : Addr} {k : Nat} {vs : List Value}
    {dp un : Nat} {gd : Option (List Code)} {cn : Str} {cs : Scope} {a : Addr} {ccd : Value} {cl : List (Str × Addr)} {outer : List Env} {A₀ : Around} {base h₀ : Heap} {L : Addr} {m : Str → Option Value} {s : Shared} {Q E : Value → Shared → Prop} {news : List (Addr × Obj)}
    {d c : Int} (S : Says w p loose mean mg mb f k vs (RetD d c)) (B : Below A₀ base outer h₀) (F : Fr h₀ L s.heap m) (X : (hd.heap_39 w.params).In h₀) (N : News h₀ L s.heap news) (T : Top p loose mean mg mb h₀) (hk : cs.kind = .function)
    (hdp : dp + k < recursionLimit) (hun : un + 8 * k < cLine) (ret : ∀ z t h' tk', Fr h₀ L h' m → News h₀ L h' news → (z = d ∨ (z = c + 1 ∧ c < d)) → Q (.int z t) { s with heap := h', toks := tk' }) :
    wpAny (model Challenge.rw_pe0078_01.row.prog w) (ktrTop dp un gd cn cs L a ccd cl outer) (call (.ref f) vs) Q E s :=
  S _ _ _ _ _ _ _ _ _ _ _ _ _ _ _ _ _ B F X T hk hdp hun fun v h' tk' st ⟨z, t, e, hz⟩ => by rw [e]; exact ret z t h' tk' (fr_stays F st) (news_stays N st) hz
theorem form_item {prog : Program} {w : World} {A : Around} {E : Value → Shared → Prop} {s : Shared} {value slice : Expr} {a : Addr} {ys : List Value} {W : List Int} {l : List Nat} {k : Int} {u : Tok} {Q : Value → Shared → Prop}
    (hl : s.heap.IsList a ys.toArray) (hi : CarriedAll ys (W.map fun k => PyData.str (tx (formL l k)))) (h0 : 0 ≤ k) (hk : k < W.length) (hfit : k < 2 ^ 63) (h : ∀ t', Q (.str (tx (formL l (W.getD k.toNat 0))) t') s)
    (hs : subscripted slice false (.ref a) (.int k u) = operate [.ref a, .int k u] (getItem (.ref a) (.int k u)) := by with_unfolding_all rfl) (hg : ∀ r, letTemporaryGo value (.ref a) r = pure () := by intro _; with_unfolding_all rfl) :
    wpAny (model prog w) A (subscriptTail value slice (.ref a) (.int k u)) Q E s := by
  refine item_strsA hl (CarriedAll.strsOf hi) h0 (by rw [List.length_map]; exact hk) hfit (fun t' => ?_) hs hg
  have e : (W.map fun k => tx (formL l k)).getD k.toNat Str.empty = tx (formL l (W.getD k.toNat 0)) := by
    have hlt : k.toNat < W.length := by omega
    rw [List.getD_eq_getElem?_getD, List.getElem?_map, List.getD_eq_getElem?_getD, List.getElem?_eq_getElem hlt]
    rfl
  rw [e]
  exact h t'
theorem width_at {n i : Nat} {d e : Int} (h : i < n) : (rangeKs 3 n ++ [d, e]).getD i 0 = 3 + (i : Int) := by
  rw [List.getD_eq_getElem?_getD, List.getElem?_append_left (by rw [rangeKs_length]; exact h), ← List.getD_eq_getElem?_getD]
  exact kll_at h
theorem widths_len {n : Nat} {d e : Int} : (rangeKs 3 n ++ [d, e]).length = n + 2 := by rw [List.length_append, rangeKs_length]; rfl
local macro_rules | `(tactic| walk_at "subscriptTail Name Name ref int") => `(tactic| ((with_reducible show wpAny _ _ (subscriptTail _ _ (Value.ref _) (Value.int _ _)) _ _ _); (rename IntsAre _ (_ ++ [_, _]) => hIX); k_dflt (refine' item_anyK ?k1 hIX ?k2 ?k3 ?k4 ?_ ?k5; (case k1 => exact News.isList (by k_asm) (by k_mem)); (case k2 => omega); (case k3 => (rw [widths_len]; omega)); (case k4 => omega); (case k5 => with_unfolding_all rfl); k_whole); (intro tF)))
local macro_rules | `(tactic| walk_at "subscriptTail") => `(tactic| ((with_reducible show wpAny _ _ (subscriptTail _ _ (Value.ref _) (Value.int _ _)) _ _ _); (rename CarriedAll _ _ => hCA); k_dflt (refine' form_item ?k1 hCA ?k2 ?k3 ?k4 ?_ ?k5 ?k6; (case k1 => exact News.isList (by k_asm) (by k_mem)); (case k2 => omega); (case k3 => (rw [widths_len]; omega)); (case k4 => omega); (case k5 => with_unfolding_all rfl); (case k6 => (intro _; with_unfolding_all rfl)); k_whole); (intro tF)))
local macro_rules | `(tactic| walk_at "call ref") => `(tactic| ((with_reducible show wpAny _ _ (call (Value.ref 56) [Value.str (tx _) _, Value.int _ _, Value.int _ _]) _ _ _); k_dflt (refine' use_int (says_due ?l1 ?l2 ?l3) ?k1 ?k2 ?k3 ?k4 ?k5 ?k6 ?k7 ?k8 ?_; (case l1 => assumption); (case l2 => omega); (case l3 => omega); (case k1 => k_asm); (case k2 => k_asm); (case k3 => k_asm); (case k4 => k_asm); (case k5 => k_asm); (case k6 => first | exact rfl | assumption); (case k7 => ktr_room); (case k8 => ktr_units); k_whole); (intro tC h' tk' F' N'); (try dsimp only); (try k_fold)))
local macro_rules | `(tactic| walk_at "call ref") => `(tactic| ((with_reducible show wpAny _ _ (call (Value.ref 35) [Value.str (tx (formL _ _)) _, Value.str (tx (formL _ _)) _, Value.int _ _]) _ _ _); k_dflt (refine' use_d (says_lev (form_len ?l1 ?l2) (form_len ?l3 ?l4) (form_sign ?l5) (form_sign ?l6)) ?k1 ?k2 ?k3 ?k4 ?k5 ?k6 ?k7 ?k8 ?_; (case l1 => assumption); (case l2 => assumption); (case l3 => assumption); (case l4 => assumption); (case l5 => assumption); (case l6 => assumption); (case k1 => k_asm); (case k2 => k_asm); (case k3 => k_asm); (case k4 => k_asm); (case k5 => k_asm); (case k6 => first | exact rfl | assumption); (case k7 => ktr_room); (case k8 => ktr_units); k_whole); (intro zD tC h' tk' F' N' hD); (try dsimp only); (try k_fold)))

section
variable {prog : Program} {w : World} {A : Around} {E : Value → Shared → Prop} {s : Shared} {env : Env} {h₀ : Heap} {x : Str} {body : List Stmt} {Q : Flow → Shared → Prop}
/-- a for over a range that keeps nothing but its names -/
theorem for_any {r : Addr} {a₀ b₀ : Int} {t₀ u₀ v₀ : Tok} {n : Nat} {m₀ : Str → Option Value} {news : List (Addr × Obj)} (stored : List Str)
    (hh : A.handled = none) (hr : IsRange s.heap r a₀ b₀ 1 t₀ u₀ v₀) (hsmall : Builtin.Range.small a₀ b₀ 1 = true) (hn : Builtin.Range.rangeSize a₀ b₀ 1 = (n : Int)) (F : Fr h₀ env.locals s.heap m₀) (N : News h₀ env.locals s.heap news)
    (turn : ∀ (i : Nat) (k : Int) t (u : Str → Option Value) h tk own (pre : List Int), k = a₀ + (i : Int) → i < n → OwnOff own (news.map (·.1)) → KstMark →
      Fr h₀ env.locals h (fun y => if y = x then some (.int k t) else if stored.contains y then u y else m₀ y) → News h₀ env.locals h (news ++ own) →
      wpAny (model prog w) A (execs body env) (InvPostN h₀ env.locals (KstS (σ := Unit) (fun _ => news) (fun _ => []) (fun _ => True) x stored m₀ (fun _ _ => True) pre) own (news.map (·.1)) { s with heap := h, toks := tk } Q) E { s with heap := h, toks := tk })
    (done : ∀ (u : Str → Option Value) h tk, Fr h₀ env.locals h (fun y => if y = x then u y else if stored.contains y then u y else m₀ y) → News h₀ env.locals h news → Q .next { s with heap := h, toks := tk }) :
    wpAny (model prog w) A (pyIter (.ref r)) (fun it s₂ => LoopAtV prog w A h₀ env x body Q E it s₂) E s :=
  kst_range (σ := Unit) (fun _ => news) (fun _ => []) (fun _ => True) stored (fun _ _ => True) () hh hr hsmall hn F N trivial (fun _ hp => nomatch hp) trivial
    (fun _ pre k t u h tk own hk hlt hoff _ _ F' N' => turn pre.length k t u h tk own (pre ++ [k]) hk hlt hoff kstMark F' N') (fun _ u h tk _ _ F' N' => done u h tk F' N')
theorem any_end {stored : List Str} {m₀ m' : Str → Option Value} {news own news' : List (Addr × Obj)} {pre : List Int} {L : Addr} {s₁ : Shared} {h' : Heap} {tk : Nat}
    (F : Fr h₀ L h' m') (N : News h₀ L h' news') (hn : ∀ p ∈ news, p ∈ news') (ho : ∀ p ∈ own, p ∈ news') (hr : ∀ z, z ≠ x → stored.contains z = false → m' z = m₀ z) :
    InvEndN h₀ L (KstS (σ := Unit) (fun _ => news) (fun _ => []) (fun _ => True) x stored m₀ (fun _ _ => True) pre) own (news.map (·.1)) s₁ { s₁ with heap := h', toks := tk } :=
  kst_end () F N hn ho rfl trivial (fun _ hp => nomatch hp) (fun z h1 _ h3 => hr z h1 h3) trivial
end

theorem told_is {l : List Nat} {i1 i2 n : Nat} {d e z k1 k2 sl c : Int} (hk1 : k1 = 3 + (i1 : Int)) (hk2 : k2 = 3 + (i2 : Int)) (h1 : i1 < n) (hle : k2 ≤ k1) (hm : k1 ≤ l.length)
    (hD : z = D (formL l ((rangeKs 3 n ++ [d, e]).getD (k1 - 3).toNat 0)) (formL l ((rangeKs 3 n ++ [d, e]).getD (k2 - 3).toNat 0)) ∨
      z = c + sl + 1 ∧ c + sl < D (formL l ((rangeKs 3 n ++ [d, e]).getD (k1 - 3).toNat 0)) (formL l ((rangeKs 3 n ++ [d, e]).getD (k2 - 3).toNat 0))) (hc : c = dueL l k2 k1) :
    z = c ∨ (z = c + sl + 1 ∧ sl < 0) := by
  have e1 : (k1 - 3).toNat = i1 := by omega
  have e2 : (k2 - 3).toNat = i2 := by omega
  rw [e1, e2, width_at h1, width_at (by omega), ← hk1, ← hk2, D_due (by omega) hle hm, ← hc] at hD
  omega
local macro_rules | `(tactic| walk_at "exec If") => `(tactic| ((with_reducible show wpAny _ _ (exec (Stmt.If (Expr.BoolOp _ _ _) _ _ _) _) _ _ _); refine halt ?_))
theorem law_holds : PySem.Challenge.rw_pe0078_01.Holds := hd (by
  k_go0
  (all_goals try k_fold)
  k_steps
  unfold Halt
  (rename List Int => ns)
  (rename IntsAre _ (List.take _ _) => hI9)
  refine LCg.CompSrc.ledger (by rfl) (by k_asm) (by k_asm) (by k_mem) (by size_fits) ?_
  intro g'
  refine' kct_list (fun k => one (sgn k)) hI9 (fun k' t' I' oI' C' oC' D' m' ys' h' tk' E' hk' hC' hx' F' N' off' ne' => ?_) ?_
  · simp only [LCg.Off3, and_true] at off'
    intro hMark'
    k_steps
    exact kct_el (item_menu _).symm rfl rfl
  · k_steps
    unfold Halt
    (rename _ = Data.cell (some _) => hcell)
    rw [text_is] at hcell
    obtain ⟨h3, h9⟩ := txt_len ns
    have hs := txt_sign ns
    generalize txt ns = l at *
    (rename Fr _ _ _ _ => F9)
    (rename News _ _ _ _ => N9)
    have N10 := news_one N9
    obtain ⟨m9, F10⟩ : ∃ m9, Fr _ _ _ (kstB m9 [(Str.ofString "script", Value.ref _)]) := ⟨_, fr_known F9 (by kst_all)⟩
    dsimp only [kstB] at F10
    clear F9 N9
    have q3 : 3 ≤ (tx l).length := by rw [tx_len]; exact h3
    have q9 : (tx l).length ≤ 9 := by rw [tx_len]; exact h9
    have qE : (tx l).length = l.length := tx_len l
    refine wpAny_Assign_Name ?_
    k_steps
    unfold Halt
    generalize (List.take 1 ns ++ [5]).getD (Int.toNat 0) 0 = d at *
    generalize (List.take 9 ns).sum.fmod 6 - 3 = sl at *
    (rename Fr _ _ _ _ => F9)
    (rename News _ _ _ _ => N9)
    have N11 := news_two N9
    clear N9
    (rename IntsAre _ (_ ++ [_, _]) => hIW)
    refine LCg.CompSrc.ledger (by rfl) (by k_asm) (by k_asm) (by k_mem) (by size_fits) ?_
    intro g'
    refine' kct_list (fun k => tx (formL l k)) hIW (fun k' t' I' oI' C' oC' D' m' ys' h' tk' E' hk' hC' hx' F' N' off' ne' => ?_) ?_
    · simp only [LCg.Off3, and_true] at off'
      intro hMark'
      k_steps
    · k_steps
      unfold Halt
      (rename Fr _ _ _ _ => F9)
      obtain ⟨m11, F12⟩ : ∃ m11, Fr _ _ _ (kstB m11 [(Str.ofString "widths", Value.ref _), (Str.ofString "forms", Value.ref _), (Str.ofString "slack", Value.int sl _)]) := ⟨_, fr_known F9 (by kst_all)⟩
      dsimp only [kstB] at F12
      clear F9
      refine for_any [] (by rfl) (by assumption) (small_one (by omega) (by omega) (by omega) (by rw [rangeKs_length]; omega)) (rangeSize_nat _ _) F12 (by assumption) ?_ ?_
      · intro i k t u h tk own pre hk hi hoff hmark F13 N13
        simp only [List.nil_append, List.cons_append] at N13
        rw [rangeKs_length] at hi
        (try dsimp only); (try k_fold)
        k_steps
      · intro u h tk F13 N13
        obtain ⟨m14, F14⟩ : ∃ m14, Fr _ _ _ (kstB m14 [(Str.ofString "forms", Value.ref _), (Str.ofString "slack", Value.int sl _)]) := ⟨_, fr_known F13 (by kst_all)⟩
        dsimp only [kstB] at F14
        clear F13 F12
        (try dsimp only); (try k_fold)
        k_steps
        unfold Halt
        refine for_any [Str.ofString "less", Str.ofString "due", Str.ofString "told"] (by rfl) (by assumption) (small_one (by omega) (by omega) (by omega) (by omega)) (rangeSize_nat _ _) (by assumption) (by assumption) ?_ ?_
        · intro i1 k1 t1 u1 h1 tk1 own1 pre1 hk1 hi1 hoff1 hmark1 F15 N15
          simp only [List.nil_append, List.cons_append] at N15
          (try dsimp only); (try k_fold)
          k_steps
          unfold Halt
          refine for_any [Str.ofString "due", Str.ofString "told"] (by rfl) (by assumption) (small_one (by omega) (by omega) (by omega) (by omega)) (rangeSize_nat _ _) (by assumption) (by assumption) ?_ ?_
          · intro i2 k2 t2 u2 h2 tk2 own2 pre2 hk2 hi2 hoff2 hmark2 F16 N16
            simp only [List.nil_append, List.cons_append] at N16
            (try dsimp only); (try k_fold)
            k_steps
            unfold Halt
            (rename _ ∨ _ ∧ _ => hD)
            have hT := told_is hk1 hk2 hi1 (by omega) (by omega) hD rfl
            clear hD
            (rename Fr _ _ _ _ => F17)
            generalize dueL l k2 k1 = du at *
            rcases hT with hT | ⟨hT, hneg⟩
            · subst hT
              refine wpAny_If ?_
              k_steps
              unfold Halt
              refine wpAny_If ?_
              k_steps
            · refine wpAny_If ?_
              k_steps
              unfold Halt
              refine wpAny_If ?_
              k_steps
          · intro u2 h2 tk2 F16 N16
            (try dsimp only); (try k_fold)
            k_steps
        · intro u1 h1 tk1 F15 N15
          (try dsimp only); (try k_fold)
          k_steps)
end Mine
theorem PySem.Challenge.cw_pe0078_01_holds : PySem.Challenge.rw_pe0078_01.Holds := by
  exact Mine.law_holds
