import PyProof.Rows.All
import Wide.All
import OpenK.AllK
import Wide.FinOn
import PySem.Challenge.RW_ph0017_01
open PySem PySem.W PyProof.Rows PyProof.Rows.LCg PyProof.Rows.LCt
set_option Elab.async false
set_option linter.unusedVariables false
namespace Mine
set_option maxRecDepth 100000
set_option maxHeartbeats 8000000
local macro_rules | `(tactic| walk_at "MINE enterC") => `(tactic| (k_dflt (refine' code_defC ?k1 ?k2 ?k3 ?k4 ?k5 ?kA ?kF ?kK ?k6 ?k7 ?k8 ?k9 ?kB ?kD ?_ ?c2 ?c3 ?c4; (case kA => exact rfl); (case kF => exact rfl); (case kK => assumption); (case k1 => k_asm); (case k2 => k_asm); (case k3 => k_asm); (case k4 => k_asm); (case k5 => k_asm); (case k6 => k_is); (case k7 => k_is); (case k8 => ktr_room); (case k9 => exact BindsTo.of_eq rfl); (case kB => exact rfl); (case kD => decide +kernel); (case c2 => exact rfl); (case c3 => exact rfl); (case c4 => exact rfl); k_whole; intro g' L' h' tk' cells' FG' F' N' Y' B' X' T' l1; (try k_lt l1); k_cells Y'; (try simp only [List.cons_append, List.nil_append] at N'); (try dsimp only); (try k_lift B'); (try k_fold))))
local macro_rules | `(tactic| walk_at "MINE to for") => `(tactic| repeat ((fail_if_success (with_reducible show wpAny _ _ (exec (Stmt.For _ _ _ _ _) _) _ _ _)); first | walk1 | (dsimp only; walk1)))
local macro_rules | `(tactic| walk_at "MINE to while") => `(tactic| repeat ((fail_if_success (with_reducible show wpAny _ _ (exec (Stmt.While _ _ _ _) _) _ _ _)); first | walk1 | (dsimp only; walk1)))
local macro_rules | `(tactic| walk_at "MINE to call") => `(tactic| repeat ((fail_if_success (with_reducible show wpAny _ _ (PySem.call (Value.ref _) _) _ _ _)); first | walk1 | (dsimp only; walk1)))
local macro_rules | `(tactic| walk_at "MINE to comp") => `(tactic| repeat ((fail_if_success (with_reducible show wpAny _ _ (eval (Expr.ListComp _ _ _ _) _) _ _ _)); first | walk1 | (dsimp only; walk1)))
local macro_rules | `(tactic| walk_at "MINE to asgcomp") => `(tactic| repeat ((fail_if_success (with_reducible show wpAny _ _ (exec (Stmt.Assign _ (Expr.ListComp _ _ _ _) _) _) _ _ _)); first | walk1 | (dsimp only; walk1)))
local macro_rules | `(tactic| walk_at "MINE to src") => `(tactic| repeat ((fail_if_success (with_reducible show CompSrc _ _ _ _ _ _ _ _ _ _ _ _ _ _)); (fail_if_success (with_reducible show CompSrcT _ _ _ _ _ _ _ _ _ _ _ _ _ _ _)); first | walk1 | (dsimp only; walk1)))
local macro_rules | `(tactic| walk_at "MINE to builtin") => `(tactic| repeat ((fail_if_success (with_reducible show wpAny _ _ (PySem.call (Value.builtin _) _) _ _ _)); first | walk1 | (dsimp only; walk1)))
local macro_rules | `(tactic| walk_at "MINE to inplace") => `(tactic| repeat ((fail_if_success (with_reducible show wpAny _ _ (inplaceOp _ _ _) _ _ _)); first | walk1 | (dsimp only; walk1)))
local macro_rules | `(tactic| walk_at "MINE to truthy") => `(tactic| repeat ((fail_if_success (with_reducible show wpAny _ _ (truthy _) _ _ _)); first | walk1 | (dsimp only; walk1)))
local macro_rules | `(tactic| walk_at "MINE to sub") => `(tactic| repeat ((fail_if_success (with_reducible show wpAny _ _ (subscriptTail _ _ _ _) _ _ _)); first | walk1 | (dsimp only; walk1)))
local macro_rules | `(tactic| walk_at "MINE comp U") => `(tactic| (k_dflt (refine LCg.ListComp_U (F₀ := by k_asm) (by with_unfolding_all rfl) (by decide) (by rfl) (by decide) (by rfl) ?_); walk_at "MINE to src"))
local macro_rules | `(tactic| walk_at "MINE comp T") => `(tactic| (k_dflt (refine LCt.ListComp_T (F₀ := by k_asm) (by with_unfolding_all rfl) (by decide) (by rfl) (by decide) (by rfl) ?_); walk_at "MINE to src"))
local macro_rules | `(tactic| walk_at "MINE use") => `(tactic| ((case k2 => k_asm); (case k1 => k_asm); (case k3 => k_asm); (case k4 => k_asm); (case k5 => k_asm); (case k6 => exact rfl); (case k7 => ktr_room); (case k8 => ktr_units)))
local macro_rules | `(tactic| walk_at "MINE to fors") => `(tactic| repeat ((fail_if_success (with_reducible show wpAny _ _ (execs (Stmt.For _ _ _ _ _ :: _) _) _ _ _)); first | walk1 | (dsimp only; walk1)))
local macro_rules | `(tactic| walk_at "MINE to add") => `(tactic| repeat ((fail_if_success (with_reducible show wpAny _ _ (binaryOp Operator.Add (Value.ref _) (Value.ref _)) _ _ _)); first | walk1 | (dsimp only; walk1)))
local macro_rules | `(tactic| walk_at "MINE to lname") => `(tactic| repeat ((fail_if_success (with_reducible show wpAny _ _ (loadName _ _) _ _ _)); first | walk1 | (dsimp only; walk1)))
local macro_rules | `(tactic| walk_at "MINE to sname") => `(tactic| repeat ((fail_if_success (with_reducible show wpAny _ _ (storeName _ _ _) _ _ _)); first | walk1 | (dsimp only; walk1)))
local macro_rules | `(tactic| walk_at "MINE to ecomp") => `(tactic| repeat ((fail_if_success (with_reducible show wpAny _ _ (execs (Stmt.Assign _ (Expr.ListComp _ _ _ _) _ :: _) _) _ _ _)); first | walk1 | (dsimp only; walk1)))
local macro_rules | `(tactic| walk_at "MINE to eassign") => `(tactic| repeat ((fail_if_success (with_reducible show wpAny _ _ (execs (Stmt.Assign _ _ _ :: _) _) _ _ _)); first | walk1 | (dsimp only; walk1)))
local macro_rules | `(tactic| walk_at "MINE to eif") => `(tactic| repeat ((fail_if_success (with_reducible show wpAny _ _ (execs (Stmt.If _ _ _ _ :: _) _) _ _ _)); first | walk1 | (dsimp only; walk1)))

open_top hd for PySem.Challenge.rw_ph0017_01

theorem at_Ctr : True := by
  w_top off
  exact trivial
noncomputable abbrev pr : Program := Challenge.rw_ph0017_01.row.prog
noncomputable abbrev KK (w : World) : Frag := hd.heap_39 w.params
noncomputable abbrev loo : List Str := looseW hd.view_39 [Str.ofString "COMPILER_FLAG_NAMES"]
abbrev Led := List (Addr × Obj)
/-- what a call of the def at f upon vs hands back, in any frame of a def, the ledger being news -/
def Con (w : World) (mean : ExcName → Option Value) (mg mb : Str → Option Value) (f : Addr) (vs : List Value) (news : Led) (deep : Nat) (Post : Value → Led → Prop) : Prop :=
  ∀ (dp un : Nat) (gd : Option (List Code)) (cn : Str) (cs : Scope) (a : Addr) (ccd : Value) (cl : List (Str × Addr)) (outer : List Env) (A₀ : Around) (base h₀ : Heap) (L : Addr) (m : Str → Option Value) (s : Shared) (Q E : Value → Shared → Prop),
    Below A₀ base outer h₀ → Fr h₀ L s.heap m → (hd.heap_39 w.params).In h₀ → News h₀ L s.heap news → Top hd.view_39 loo mean mg mb h₀ → cs.kind = .function → dp + deep < recursionLimit → un + 8 * deep < cLine →
    (∀ v h' tk' news', Fr h₀ L h' m → News h₀ L h' news' → Post v news' → Q v { s with heap := h', toks := tk' }) →
    wpAny (model Challenge.rw_ph0017_01.row.prog w) (ktrTop dp un gd cn cs L a ccd cl outer) (call (.ref f) vs) Q E s
theorem Con.use {w : World} {mean : ExcName → Option Value} {mg mb : Str → Option Value} {f : Addr} {vs : List Value} {news : Led} {deep : Nat} {Post : Value → Led → Prop} (C : Con w mean mg mb f vs news deep Post)
    {dp un : Nat} {gd : Option (List Code)} {cn : Str} {cs : Scope} {a : Addr} {ccd : Value} {cl : List (Str × Addr)} {outer : List Env} {A₀ : Around} {base h₀ : Heap} {L : Addr} {m : Str → Option Value} {s : Shared} {Q E : Value → Shared → Prop}
    (B : Below A₀ base outer h₀) (F : Fr h₀ L s.heap m) (X : (hd.heap_39 w.params).In h₀) (N : News h₀ L s.heap news) (T : Top hd.view_39 loo mean mg mb h₀) (hk : cs.kind = .function) (hd : dp + deep < recursionLimit) (hu : un + 8 * deep < cLine)
    (k : ∀ v h' tk' news', Fr h₀ L h' m → News h₀ L h' news' → Post v news' → Q v { s with heap := h', toks := tk' }) :
    wpAny (model Challenge.rw_ph0017_01.row.prog w) (ktrTop dp un gd cn cs L a ccd cl outer) (call (.ref f) vs) Q E s := C _ _ _ _ _ _ _ _ _ _ _ _ _ _ _ _ _ B F X N T hk hd hu k

theorem at_Plain : True := by
  w_top off
  exact trivial
def wTab : List Str := [
  Str.ofString "OPTIMIZED", Str.ofString "NEWLOCALS", Str.ofString "VARARGS", Str.ofString "VARKEYWORDS", Str.ofString "NESTED",
  Str.ofString "GENERATOR", Str.ofString "NOFREE", Str.ofString "COROUTINE", Str.ofString "ITERABLE_COROUTINE", Str.ofString "ASYNC_GENERATOR",
  Str.ofString "0x400", Str.ofString "0x800",
  Str.ofString "0x1000", Str.ofString "0x2000", Str.ofString "0x4000", Str.ofString "0x8000",
  Str.ofString "0x10000", Str.ofString "0x20000", Str.ofString "0x40000", Str.ofString "0x80000",
  Str.ofString "0x100000", Str.ofString "0x200000", Str.ofString "0x400000", Str.ofString "0x800000",
  Str.ofString "0x1000000", Str.ofString "0x2000000", Str.ofString "0x4000000", Str.ofString "0x8000000",
  Str.ofString "0x10000000", Str.ofString "0x20000000", Str.ofString "0x40000000", Str.ofString "0x80000000"]
/-- the word of a place -/
def W (k : Nat) : Str := wTab.getD k (Str.ofString "")
theorem W_hex : ∀ k : Fin 32, 10 ≤ k.val → Str.ofString "0x" ++ Txt.item (Str.ofString "1248") ((k.val : Int).fmod 4) ++ Txt.mul (Str.ofString "0") ((k.val : Int).fdiv 4) = W k.val := by decide +kernel
theorem W_hex' {x : Int} (h : 10 ≤ x) (h2 : x < 32) : Str.ofString "0x" ++ Txt.item (Str.ofString "1248") (x.fmod 4) ++ Txt.mul (Str.ofString "0") (x.fdiv 4) = W x.toNat := by
  have := W_hex ⟨x.toNat, by omega⟩ (by show 10 ≤ x.toNat; omega)
  rw [← this]
  have e : ((x.toNat : Nat) : Int) = x := by omega
  simp only [e]
theorem mul0_len : ∀ k : Fin 32, 10 ≤ k.val → (Str.ofString "0x" ++ Txt.item (Str.ofString "1248") ((k.val : Int).fmod 4)).length + (Txt.mul (Str.ofString "0") ((k.val : Int).fdiv 4)).length ≤ 100 := by decide +kernel
theorem mul0_len' {x : Int} (h : 10 ≤ x) (h2 : x < 32) : (Str.ofString "0x" ++ Txt.item (Str.ofString "1248") (x.fmod 4)).length + (Txt.mul (Str.ofString "0") (x.fdiv 4)).length ≤ sizeLine := by
  have := mul0_len ⟨x.toNat, by omega⟩ (by show 10 ≤ x.toNat; omega)
  have e : ((x.toNat : Nat) : Int) = x := by omega
  simp only [e] at this
  rw [sizeLine_eq]; omega

theorem W_len (k : Nat) : (W k).length ≤ 20 := by
  by_cases h : k < 32
  · have : ∀ k : Fin 32, (W k.val).length ≤ 20 := by decide +kernel
    exact this ⟨k, h⟩
  · have e : W k = Str.ofString "" := by
      unfold W
      rw [List.getD_eq_getElem?_getD, List.getElem?_eq_none (by show wTab.length ≤ k; have : wTab.length = 32 := by decide +kernel
                                                                omega)]
      rfl
    rw [e]; decide
theorem words_sum (l : List Nat) : ((l.map W).map (·.length)).sum ≤ 20 * l.length := by
  induction l with
  | nil => simp
  | cons k r ih => simp only [List.map_cons, List.sum_cons, List.length_cons]; have := W_len k; omega
theorem words_fit {l : List Nat} (h : l.length ≤ 100) (y : Str) (hy : y.length ≤ 16) : ((l.map W).map (·.length)).sum + (l.map W).length * y.length ≤ 16777216 := by
  have := words_sum l
  have h2 : (l.map W).length * y.length ≤ 100 * 16 := Nat.mul_le_mul (by simpa using h) hy
  omega

theorem at_Rules : True := by
  w_top off
  exact trivial
abbrev IsI (n : Int) (v : Value) : Prop := ∃ t, v = .int n t
abbrev IsS (x : Str) (v : Value) : Prop := ∃ t, v = .str x t
theorem ints_of_paired : ∀ {ns : List Int} {vs : List Value}, Paired IsI ns vs → IntsAre vs ns
  | _, _, .nil => .nil
  | _, _, .cons ⟨t, e⟩ r => e ▸ .cons _ t (ints_of_paired r)
theorem strs_of_paired : ∀ {ns : List Str} {vs : List Value}, Paired IsS ns vs → StrsAre vs ns
  | _, _, .nil => .nil
  | _, _, .cons ⟨t, e⟩ r => e ▸ .cons _ t (strs_of_paired r)
section
variable {prog : Program} {w : World} {A : Around} {s : Shared} {h₀ : Heap} {L : Addr} {m : Str → Option Value} {env : Env} {elt ct : Expr} {x : Str} {scope : Scope} {cl : List (Str × Addr)}
  {S : List (Addr × Obj) → Prop} {P : Nat → Value → Prop} {Fin : List Value → List (Addr × Obj) → Prop} {news : List (Addr × Obj)}

/-- what a comprehension's element leaves: the ledger as it was, and a value -/
def EltK (s : Shared) (h₀ : Heap) (L : Addr) (m : Str → Option Value) (led : List (Addr × Obj)) (Y : Value → Prop) (y : Value) (s' : Shared) : Prop :=
  ∃ h' tk', s' = { s with heap := h', toks := tk' } ∧ Fr h₀ L h' m ∧ News h₀ L h' led ∧ Y y
theorem EltK.intro {h' : Heap} {tk' : Nat} {led led' : List (Addr × Obj)} {Y : Value → Prop} {y : Value} (F : Fr h₀ L h' m) (N : News h₀ L h' led') (hs : ∀ p ∈ led, p ∈ led') (hy : Y y) : EltK s h₀ L m led Y y { s with heap := h', toks := tk' } :=
  ⟨h', tk', rfl, F, fun p hp => N p (hs p hp), hy⟩

theorem rest_U {β : Type} (R : β → Value → Prop) (f : Nat → β) (n : Nat) (hS : S news)
    (turn : ∀ i v I oI C oC D ys m₂ h tk (E' : Value → Shared → Prop), i < n → P i v → NsObj oC m₂ → m₂ x = some v → Fr h₀ L h m → News h₀ L h ((I, oI) :: (C, oC) :: (D, lst ys) :: news) → Off3 I C D news → ((@Ne Nat I C) ∧ (@Ne Nat I D) ∧ (@Ne Nat C D)) →
      wpAny (model prog w) A (eval elt (compEnvC scope cl C env)) (EltK { s with heap := h, toks := tk } h₀ L m ((I, oI) :: (C, oC) :: (D, lst ys) :: news) (R (f i))) E' { s with heap := h, toks := tk })
    (fin : ∀ ys, Paired R ((List.range n).map f) ys → Fin ys news) : CompRest prog w A h₀ L m env elt x scope cl s S P Fin n 0 [] news := by
  have key : ∀ k i ys, i + k = n → Paired R ((List.range i).map f) ys → CompRest prog w A h₀ L m env elt x scope cl s S P Fin k i ys news := by
    intro k
    induction k with
    | zero => intro i ys e hp; have : i = n := by omega
              subst this; exact CompRest.zero (fin ys hp)
    | succ k ih =>
      intro i ys e hp
      refine CompRest.succ ?_
      intro v I oI C oC D m₂ h tk E' hv hC hx F N off ne
      refine wpAny_mono (turn i v I oI C oC D ys m₂ h tk E' (by omega) hv hC hx F N off ne) (fun y s' q => ?_) fun _ _ e => e
      obtain ⟨h', tk', rfl, F', N', hy⟩ := q
      exact CompEnd.intro F' N' news (fun p hp => hp) off hS (ih (i + 1) (ys ++ [y]) (by omega) (by rw [List.range_succ, List.map_append]; exact Paired.snoc hp hy))
  exact key n 0 [] (by omega) .nil

theorem rest_T {β : Type} (R : β → Value → Prop) (f : Nat → β) (q : Nat → Bool) (n : Nat) (hS : S news)
    (turn : ∀ i v I oI C oC D ys m₂ h tk (E' : Value → Shared → Prop), i < n → P i v → NsObj oC m₂ → m₂ x = some v → Fr h₀ L h m → News h₀ L h ((I, oI) :: (C, oC) :: (D, lst ys) :: news) → Off3 I C D news → ((@Ne Nat I C) ∧ (@Ne Nat I D) ∧ (@Ne Nat C D)) →
      wpAny (model prog w) A (isTrue ct (compEnvC scope cl C env) (eval ct (compEnvC scope cl C env))) (fun ok s' => ok = q i ∧ (if ok = true then
        wpAny (model prog w) A (eval elt (compEnvC scope cl C env)) (EltK { s with heap := h, toks := tk } h₀ L m ((I, oI) :: (C, oC) :: (D, lst ys) :: news) (R (f i))) E' s'
        else EltK { s with heap := h, toks := tk } h₀ L m ((I, oI) :: (C, oC) :: (D, lst ys) :: news) (fun _ => True) Value.none s')) E' { s with heap := h, toks := tk })
    (fin : ∀ ys, Paired R (((List.range n).filter q).map f) ys → Fin ys news) : CompRestT prog w A h₀ L m env ct elt x scope cl s S P Fin n 0 [] news := by
  have key : ∀ k i ys, i + k = n → Paired R (((List.range i).filter q).map f) ys → CompRestT prog w A h₀ L m env ct elt x scope cl s S P Fin k i ys news := by
    intro k
    induction k with
    | zero => intro i ys e hp; have : i = n := by omega
              subst this; exact CompRestT.zero (fin ys hp)
    | succ k ih =>
      intro i ys e hp
      refine CompRestT.succ ?_
      intro v I oI C oC D m₂ h tk E' hv hC hx F N off ne
      refine wpAny_mono (turn i v I oI C oC D ys m₂ h tk E' (by omega) hv hC hx F N off ne) (fun ok s' hok => ?_) fun _ _ e => e
      obtain ⟨e1, hok⟩ := hok
      cases ok with
      | true =>
        simp only [if_true] at hok ⊢
        refine wpAny_mono hok (fun y s' q' => ?_) fun _ _ e => e
        obtain ⟨h', tk', rfl, F', N', hy⟩ := q'
        exact CompEnd.intro F' N' news (fun p hp => hp) off hS (ih (i + 1) (ys ++ [y]) (by omega) (by rw [List.range_succ, List.filter_append, List.map_append]; simp only [List.filter_cons, ← e1, if_true, List.filter_nil]; exact Paired.snoc hp hy))
      | false =>
        simp only [Bool.false_eq_true, if_false] at hok ⊢
        obtain ⟨h', tk', rfl, F', N', hy⟩ := hok
        exact CompEnd.intro F' N' news (fun p hp => hp) off hS (ih (i + 1) ys (by omega) (by rw [List.range_succ, List.filter_append, List.map_append]; simp only [List.filter_cons, ← e1, Bool.false_eq_true, if_false, List.filter_nil, List.map_nil, List.append_nil]; exact hp))
  exact key n 0 [] (by omega) .nil
end
theorem item_tupleE {prog : Program} {w : World} {A : Around} {E : Value → Shared → Prop} {s : Shared} {value slice : Expr} {t : Addr} {l : List Value} {k : Int} {u : Tok} {j : Nat} {y : Str} {Q : Value → Shared → Prop} (ht : IsTup s.heap t l.toArray)
    (hlo : -(2 ^ 63) ≤ k) (hhi : k < 2 ^ 63) (hj : seqIndex? k l.length = some j) (hx : ∃ tk, l[j]? = some (.str y tk)) (h : ∀ tk, Q (.str y tk) s)
    (hs : subscripted slice false (.ref t) (.int k u) = operate [.ref t, .int k u] (getItem (.ref t) (.int k u)) := by with_unfolding_all rfl) :
    wpAny (model prog w) A (subscriptTail value slice (.ref t) (.int k u)) Q E s := by
  obtain ⟨tk, e⟩ := hx
  exact item_tupleT ht hlo hhi hj e (h tk) hs
theorem seqIndex_of {k : Int} {n : Nat} (h : 0 ≤ k) (h2 : k < n) : seqIndex? k n = some k.toNat := by
  unfold seqIndex?
  simp only [if_neg (show ¬ k < 0 by omega)]
  rw [if_pos (by simp [h, h2])]
theorem add_strE {prog : Program} {w : World} {A : Around} {E : Value → Shared → Prop} {s : Shared} {x y z : Str} {t u : Tok} {Q : Value → Shared → Prop} (hz : x ++ y = z) (hsz : x.length + y.length ≤ sizeLine)
    (h : ∀ t' tk, Q (.str z t') { s with toks := tk }) : wpAny (model prog w) A (binaryOp .Add (.str x t) (.str y u)) Q E s := by
  subst hz
  exact add_str h hsz

theorem at_Loops : True := by
  w_top off
  exact trivial
theorem Fr.conv {h₀ h : Heap} {L : Addr} {m m' : Str → Option Value} (F : Fr h₀ L h m) (e : m = m') : Fr h₀ L h m' := e ▸ F
/-- the map of a frame behind a turn that stores one name p, the loop's own name being k -/
theorem upd1 {k p : Str} (hne : p ≠ k) {v kv pv : Value} {uu m₀ : Str → Option Value} :
    (fun y => if y = p then some v else (if y = k then some kv else (if y = k then uu y else if y = p then some pv else m₀ y))) = fun z => if z = k then (fun _ => some kv) z else if z = p then some v else m₀ z := by
  funext z
  by_cases h1 : z = k
  · subst h1; simp [Ne.symm hne]
  · by_cases h2 : z = p
    · subst h2; simp [h1]
    · simp [h1, h2]
theorem upd1_0 {k p : Str} (hne : p ≠ k) {v : Value} {m₀ : Str → Option Value} (h0 : m₀ k = none) :
    (fun y => if y = p then some v else m₀ y) = fun z => if z = k then (fun _ => none) z else if z = p then some v else m₀ z := by
  funext z
  by_cases h1 : z = k
  · subst h1; simp [Ne.symm hne, h0]
  · simp [h1]
theorem upd2 {k p q : Str} (h1 : p ≠ k) (h2 : q ≠ k) (h3 : q ≠ p) {v kv qv qv' : Value} {u9 u8 m₀ : Str → Option Value} :
    (fun y => if y = q then some qv' else (if y = p then some v else (if y = k then some kv else (if y = k then u9 y else if y = p then u8 y else if y = q then some qv else m₀ y)))) = fun z => if z = k then (fun _ => some kv) z else if z = p then (fun _ => some v) z else if z = q then some qv' else m₀ z := by
  funext z
  by_cases e1 : z = k
  · subst e1; simp [Ne.symm h1, Ne.symm h2]
  · by_cases e2 : z = p
    · subst e2; simp [e1, Ne.symm h3]
    · by_cases e3 : z = q
      · subst e3; simp [e1, e2]
      · simp [e1, e2, e3]
theorem upd2' {k p q : Str} (h1 : p ≠ k) {v kv qv : Value} {u9 u8 m₀ : Str → Option Value} :
    (fun y => if y = p then some v else (if y = k then some kv else (if y = k then u9 y else if y = p then u8 y else if y = q then some qv else m₀ y))) = fun z => if z = k then (fun _ => some kv) z else if z = p then (fun _ => some v) z else if z = q then some qv else m₀ z := by
  funext z
  by_cases e1 : z = k
  · subst e1; simp [Ne.symm h1]
  · by_cases e2 : z = p
    · subst e2; simp [e1]
    · simp [e1, e2]
theorem lk1 (a : Str) (v : Value) : (fun z => List.lookup z [(a, v)]) = fun z => if z = a then some v else none := by
  funext z
  by_cases h : z = a
  · subst h; simp [List.lookup]
  · have : (z == a) = false := by simp [h]
    simp [List.lookup, this, h]
theorem lk2 (a b : Str) (v w : Value) : (fun z => List.lookup z [(a, v), (b, w)]) = fun z => if z = a then some v else if z = b then some w else none := by
  funext z
  by_cases h : z = a
  · subst h; simp [List.lookup]
  · have e : (z == a) = false := by simp [h]
    rw [if_neg h, ← congrFun (lk1 b w) z]
    simp [List.lookup, e]
theorem lk3 (a b c : Str) (v w u : Value) : (fun z => List.lookup z [(a, v), (b, w), (c, u)]) = fun z => if z = a then some v else if z = b then some w else if z = c then some u else none := by
  funext z
  by_cases h : z = a
  · subst h; simp [List.lookup]
  · have e : (z == a) = false := by simp [h]
    rw [if_neg h, ← congrFun (lk2 b c w u) z]
    simp [List.lookup, e]
section
variable {prog : Program} {w : World} {A : Around} {s : Shared} {h₀ : Heap} {env : Env} {x : Str} {body orelse : List Stmt} {news : List (Addr × Obj)}

/-- what a loop's turn leaves: the iterator as it was, the word J -/
def TurnK (h₀ : Heap) (L I : Addr) (oI : Obj) (J : (Str → Option Value) → List (Addr × Obj) → Prop) (s₁ : Shared) (Qr : Value → Shared → Prop) (Qb : Shared → Prop) (f : Flow) (s₂ : Shared) : Prop :=
  match f with
  | .ret v => Qr v s₂
  | .brk => Qb s₂
  | _ => ∃ h' tk m' news', s₂ = { s₁ with heap := h', toks := tk } ∧ Fr h₀ L h' m' ∧ News h₀ L h' ((I, oI) :: news') ∧ (∀ p ∈ news', p.1 ≠ I) ∧ J m' news'
theorem TurnK.next {L I : Addr} {oI : Obj} {J : (Str → Option Value) → List (Addr × Obj) → Prop} {s₁ : Shared} {Qr : Value → Shared → Prop} {Qb : Shared → Prop} {h' : Heap} {tk : Nat} {m' : Str → Option Value} {news' all : List (Addr × Obj)}
    (F : Fr h₀ L h' m') (N : News h₀ L h' all) (hs : ∀ p ∈ (I, oI) :: news', p ∈ all) (off : ∀ p ∈ news', p.1 ≠ I) (hJ : J m' news') : TurnK h₀ L I oI J s₁ Qr Qb .next { s₁ with heap := h', toks := tk } :=
  ⟨h', tk, m', news', rfl, F, fun p hp => N p (hs p hp), off, hJ⟩

theorem for_walk {R : Result → Shared → Prop} {px : Pos} {I : Addr} {fp : List Addr} {n : Nat} {P : Nat → Value → Prop} {St : Nat → Heap → Prop} {S : List (Addr × Obj) → Prop} {m : Str → Option Value}
    (W : Walks prog w A I fp [I] n P St) (hIo : ∀ i h, St i h → ∃ o, h.get? I = some o)
    (hSt : ∀ i h h' o nw, St i h → h.get? I = some o → h'.get? I = some o → (∀ b o, h₀.get? b = some o → h'.get? b = some o) → News h₀ env.locals h' nw → S nw → St i h')
    (hx : env.kindOf x = some .local) (hp : (env.scope.kind == .class || (env.scope.kind == .module && env.locals != env.globals)) = false)
    (hLf : env.locals ∉ fp) (hI₀ : h₀.get? I = none) (hst : St 0 s.heap) (F : Fr h₀ env.locals s.heap m) (N : News h₀ env.locals s.heap news) (off : ∀ p ∈ news, p.1 ≠ I)
    (J : Nat → (Str → Option Value) → List (Addr × Obj) → Prop) (hJS : ∀ i m nw, J i m nw → S nw) (h0 : J 0 m news)
    (step : ∀ i v m₁ news₁ oI h tk, i < n → P i v → J i m₁ news₁ → (∀ p ∈ news₁, p.1 ≠ I) → Fr h₀ env.locals h (fun y => if y = x then some v else m₁ y) → News h₀ env.locals h ((I, oI) :: news₁) →
      wpAny (model prog w) A (execs body env) (TurnK h₀ env.locals I oI (J (i + 1)) { s with heap := h, toks := tk } (fun v s' => R (.ok (.ret v)) s') fun s' => R (.ok .next) s') (notedBy (model prog w) A env fun e s' => R (.error e) s') { s with heap := h, toks := tk })
    (hR : ∀ h tk m' news', Fr h₀ env.locals h m' → News h₀ env.locals h news' → J n m' news' →
      wpAny (model prog w) A (execs orelse env) (fun f s₃ => R (.ok f) s₃) (notedBy (model prog w) A env fun e s' => R (.error e) s') { s with heap := h, toks := tk }) :
    codeAny (model prog w) A (.forLoop (.Name x px) (.ref I) body orelse env) R s := by
  have hIf : I ∈ fp := W.sub I (List.mem_singleton.mpr rfl)
  have hLI : env.locals ≠ I := fun e => hLf (e ▸ hIf)
  refine codeAny_forLoop
    (fun k s' => ∃ h' tk m' news' i, s' = { s with heap := h', toks := tk } ∧ St i h' ∧ Fr h₀ env.locals h' m' ∧ News h₀ env.locals h' news' ∧ (∀ p ∈ news', p.1 ≠ I) ∧ J i m' news' ∧ i ≤ n ∧ k = n + 1 - i) ?_ (n + 1)
    ⟨s.heap, s.toks, m, news, 0, rfl, hst, F, N, off, h0, Nat.zero_le _, rfl⟩
  rintro k s' ⟨h', tk, m', news', i, rfl, hst', F', N', off', hJ, hi, rfl⟩
  by_cases hlt : i < n
  · refine W.item i _ _ _ hlt hst' fun v h₁ tk₁ hP hst₁ hk₁ => ?_
    have F₁ := fr_but F' hk₁ hLI hI₀
    have N₁ := news_but N' hk₁ off'
    refine wpAny_assign_Name (wpAny_storeName_local hx F₁.ns (fun h₂ hn₂ hs₂ => ?_) hp)
    have F₂ := F₁.set hn₂ hs₂
    have N₂ := N₁.set hs₂
    have hst₂ : St (i + 1) h₂ := W.frame _ _ _ hst₁ fun b hb o e => (hs₂.2 b fun q => hLf (q ▸ hb)).trans e
    obtain ⟨oI, heI⟩ := hIo _ _ hst₂
    have NI : News h₀ env.locals h₂ ((I, oI) :: news') := fun p hp => by
      rcases List.mem_cons.mp hp with rfl | hp
      · exact ⟨heI, Ne.symm hLI, hI₀⟩
      · exact N₂ p hp
    refine wpAny_mono (step i v m' news' oI h₂ _ hlt hP hJ off' F₂ NI) (fun f s₃ h₃ => ?_) fun _ _ e => e
    have go : (∃ h' tk m₂ news₂, s₃ = { s with heap := h', toks := tk } ∧ Fr h₀ env.locals h' m₂ ∧ News h₀ env.locals h' ((I, oI) :: news₂) ∧ (∀ p ∈ news₂, p.1 ≠ I) ∧ J (i + 1) m₂ news₂) →
        ∃ k', k' < n + 1 - i ∧ ∃ h' tk m' news' j, s₃ = { s with heap := h', toks := tk } ∧ St j h' ∧ Fr h₀ env.locals h' m' ∧ News h₀ env.locals h' news' ∧ (∀ p ∈ news', p.1 ≠ I) ∧ J j m' news' ∧ j ≤ n ∧ k' = n + 1 - j := by
      rintro ⟨h₄, tk₄, m₂, news₂, e, F₄, N₄, off₄, hJ₄⟩
      have N₅ : News h₀ env.locals h₄ news₂ := fun p hp => N₄ p (List.mem_cons_of_mem _ hp)
      exact ⟨n + 1 - (i + 1), by omega, h₄, tk₄, m₂, news₂, i + 1, e, hSt _ _ _ _ _ hst₂ heI (N₄ (I, oI) List.mem_cons_self).1 F₄.keep N₅ (hJS _ _ _ hJ₄), F₄, N₅, off₄, hJ₄, hlt, rfl⟩
    cases f with
    | ret v => exact h₃
    | brk => exact h₃
    | next => exact go h₃
    | cont => exact go h₃
  · have hin : i = n := by omega
    subst hin
    refine W.done _ _ _ hst' fun h₁ tk₁ hk₁ => ?_
    exact hR h₁ tk₁ m' news' (fr_but F' hk₁ hLI hI₀) (news_but N' hk₁ off') hJ

/-- a loop over a list of the ledger or of the base -/
def ForL (prog : Program) (w : World) (A : Around) (h₀ : Heap) (env : Env) (x : Str) (body orelse : List Stmt) (Q : Flow → Shared → Prop) (E : Value → Shared → Prop) (xv : Value) (s₁ : Shared) : Prop :=
  ∃ (ax : Addr) (its : Array Value) (m : Str → Option Value) (news : List (Addr × Obj)) (J : Nat → (Str → Option Value) → List (Addr × Obj) → Prop),
    xv = .ref ax ∧ A.handled = none ∧ Fr h₀ env.locals s₁.heap m ∧ News h₀ env.locals s₁.heap news ∧ (∀ i m nw, J i m nw → SrcAt h₀ ax its nw) ∧ J 0 m news ∧
      (∀ (i : Nat) (v : Value) (m₁ : Str → Option Value) (news₁ : List (Addr × Obj)) (I : Addr) (oI : Obj) (h : Heap) (tk : Nat), its[i]? = some v → J i m₁ news₁ → (∀ p ∈ news₁, p.1 ≠ I) → (∀ p ∈ news, p.1 < I) → Fr h₀ env.locals h (fun y => if y = x then some v else m₁ y) → News h₀ env.locals h ((I, oI) :: news₁) →
        wpAny (model prog w) A (execs body env) (TurnK h₀ env.locals I oI (J (i + 1)) { s₁ with heap := h, toks := tk } (fun v s' => Q (.ret v) s') fun s' => Q .next s') E { s₁ with heap := h, toks := tk }) ∧
      (∀ (h : Heap) (tk : Nat) (m' : Str → Option Value) (news' : List (Addr × Obj)), Fr h₀ env.locals h m' → News h₀ env.locals h news' → J its.size m' news' → wpAny (model prog w) A (execs orelse env) Q E { s₁ with heap := h, toks := tk })
theorem for_list {E : Value → Shared → Prop} {Q : Flow → Shared → Prop} {px pos : Pos} {iter : Expr} {m₀ : Str → Option Value} (_F₀ : Fr h₀ env.locals s.heap m₀) (hx : env.kindOf x = some .local)
    (hp : (env.scope.kind == .class || (env.scope.kind == .module && env.locals != env.globals)) = false)
    (h : wpAny (model prog w) A (eval iter env) (ForL prog w A h₀ env x body orelse Q E) E s)
    (hs : ∀ x, foldedSetIterable iter env x = pure x := by intro _; rfl)
    (hE : PassesOwn (model prog w) A env E := by passes_own) :
    wpAny (model prog w) A (exec (.For (.Name x px) iter body orelse pos) env) Q E s := by
  refine wpAny_For (wpAny_mono h (fun xv s₁ h₁ => ?_) fun _ _ e => e) hs
  obtain ⟨ax, its, m, news, J, rfl, hh, F, N, hJS, h0, step, fin⟩ := h₁
  have hS := hJS _ _ _ h0
  have hl := hS.list F.keep N
  have hlt : ax < s₁.heap.objs.size := by obtain ⟨_, e, _⟩ := hl; exact Heap.lt_size e
  have up : ∀ b o, s₁.heap.get? b = some o → (s₁.heap.push { cls := .type "list_iterator", data := .fields #[.ref ax, .int 0 0] }).get? b = some o := fun b o e => Heap.get?_push_of_some _ e
  refine wpAny_pyIter_list hl ?_
  refine for_walk (h₀ := h₀) (J := J) (S := SrcAt h₀ ax its) (news := news) (m := m) (Walks.list hh s₁.heap.objs.size ax (Nat.ne_of_lt hlt) its) (fun i h st => by obtain ⟨o, e, _⟩ := st.1; exact ⟨o, e⟩) list_st hx hp ?_ (next_is_new F)
    ⟨⟨_, Heap.get?_push_size _ rfl, rfl, rfl⟩, hl.push _⟩ (F.keeps up) (N.grown up) (fun p hp => Nat.ne_of_lt (Heap.lt_size (N p hp).1)) hJS h0 ?_ ?_
  · intro hm
    rcases List.mem_cons.mp hm with e | hm
    · exact absurd F.ns.lt (e ▸ Nat.lt_irrefl _)
    · have e := List.mem_singleton.mp hm
      rcases hS with ⟨o, q, _⟩ | ⟨o, q, _⟩
      · exact absurd (Nat.lt_of_lt_of_le (Heap.lt_size q) F.above) (e ▸ Nat.lt_irrefl _)
      · exact (N _ q).2.1 e.symm
  · intro i v m₁ news₁ oI h tk hi hP hJ off F₁ N₁
    exact wpAny_passesOwn hE (step i v m₁ news₁ _ oI h tk hP hJ off (fun p hp => Heap.lt_size (N p hp).1) F₁ N₁)
  · intro h tk m' news' F' N' hJ
    exact wpAny_passesOwn hE (fin h tk m' news' F' N' hJ)

/-- a loop over a range by ones -/
def ForR (prog : Program) (w : World) (A : Around) (h₀ : Heap) (env : Env) (x : Str) (body orelse : List Stmt) (Q : Flow → Shared → Prop) (E : Value → Shared → Prop) (xv : Value) (s₁ : Shared) : Prop :=
  ∃ (r : Addr) (a b : Int) (t u v : Tok) (n : Nat) (m : Str → Option Value) (news : List (Addr × Obj)) (J : Nat → (Str → Option Value) → List (Addr × Obj) → Prop),
    xv = .ref r ∧ A.handled = none ∧ Fr h₀ env.locals s₁.heap m ∧ News h₀ env.locals s₁.heap news ∧ IsRange s₁.heap r a b 1 t u v ∧ Builtin.Range.small a b 1 = true ∧ Builtin.Range.rangeSize a b 1 = ((n : Nat) : Int) ∧ J 0 m news ∧
      (∀ (i : Nat) (t : Tok) (m₁ : Str → Option Value) (news₁ : List (Addr × Obj)) (I : Addr) (oI : Obj) (h : Heap) (tk : Nat), i < n → J i m₁ news₁ → (∀ p ∈ news₁, p.1 ≠ I) → (∀ p ∈ news, p.1 < I) → Fr h₀ env.locals h (fun y => if y = x then some (.int (a + (i : Int)) t) else m₁ y) → News h₀ env.locals h ((I, oI) :: news₁) →
        wpAny (model prog w) A (execs body env) (TurnK h₀ env.locals I oI (J (i + 1)) { s₁ with heap := h, toks := tk } (fun v s' => Q (.ret v) s') fun s' => Q .next s') E { s₁ with heap := h, toks := tk }) ∧
      (∀ (h : Heap) (tk : Nat) (m' : Str → Option Value) (news' : List (Addr × Obj)), Fr h₀ env.locals h m' → News h₀ env.locals h news' → J n m' news' → wpAny (model prog w) A (execs orelse env) Q E { s₁ with heap := h, toks := tk })
theorem for_range {E : Value → Shared → Prop} {Q : Flow → Shared → Prop} {px pos : Pos} {iter : Expr} {m₀ : Str → Option Value} (_F₀ : Fr h₀ env.locals s.heap m₀) (hx : env.kindOf x = some .local)
    (hp : (env.scope.kind == .class || (env.scope.kind == .module && env.locals != env.globals)) = false)
    (h : wpAny (model prog w) A (eval iter env) (ForR prog w A h₀ env x body orelse Q E) E s)
    (hs : ∀ x, foldedSetIterable iter env x = pure x := by intro _; rfl)
    (hE : PassesOwn (model prog w) A env E := by passes_own) :
    wpAny (model prog w) A (exec (.For (.Name x px) iter body orelse pos) env) Q E s := by
  refine wpAny_For (wpAny_mono h (fun xv s₁ h₁ => ?_) fun _ _ e => e) hs
  obtain ⟨r, a, b, t, u, v, n, m, news, J, rfl, hh, F, N, hr, hsm, hn, h0, step, fin⟩ := h₁
  refine wpAny_pyIter_range hr hsm ?_
  refine for_walk (h₀ := h₀) (J := J) (S := fun _ => True) (news := news) (m := m) (range_walks hh a n) (fun i h st => ⟨_, st⟩) range_st hx hp ?_ (next_is_new F)
    (by show IsRangeIter _ _ _ _ _; rw [hn]; simpa using Heap.get?_push_size _ rfl) (F.keeps fun _ _ e => Heap.get?_push_of_some _ e) (N.grown fun _ _ e => Heap.get?_push_of_some _ e) (fun p hp => Nat.ne_of_lt (Heap.lt_size (N p hp).1)) (fun _ _ _ _ => trivial) h0 ?_ ?_
  · intro hm
    exact absurd F.ns.lt (List.mem_singleton.mp hm ▸ Nat.lt_irrefl _)
  · intro i v m₁ news₁ oI h tk hi hP hJ off F₁ N₁
    obtain ⟨t', rfl⟩ := hP
    exact wpAny_passesOwn hE (step i t' m₁ news₁ _ oI h tk hi hJ off (fun p hp => Heap.lt_size (N p hp).1) F₁ N₁)
  · intro h tk m' news' F' N' hJ
    exact wpAny_passesOwn hE (fin h tk m' news' F' N' hJ)
end

theorem at_Bits : True := by
  w_top off
  exact trivial
theorem xor_add_and : ∀ a b : Nat, (a ^^^ b) + 2 * (a &&& b) = a + b := by
  intro a
  induction a using Nat.strongRecOn with
  | ind a ih =>
    intro b
    by_cases ha : a = 0
    · subst ha; simp
    · have h := ih (a / 2) (by omega) (b / 2)
      rw [← Nat.xor_div_two, ← Nat.and_div_two] at h
      have h1 : (a ^^^ b) % 2 = 1 ↔ ¬ (a % 2 = 1 ↔ b % 2 = 1) := Nat.xor_mod_two_eq_one
      have h2 : (a &&& b) % 2 = 1 ↔ a % 2 = 1 ∧ b % 2 = 1 := Nat.and_mod_two_eq_one
      omega
theorem bitAnd_nat (a b : Nat) : Builtin.bitAnd (a : Int) (b : Int) = ((a &&& b : Nat) : Int) := by
  unfold Builtin.bitAnd
  simp
theorem bitOr_nat (a b : Nat) : Builtin.bitOr (a : Int) (b : Int) = ((a ||| b : Nat) : Int) := by
  unfold Builtin.bitOr Builtin.bitAnd Builtin.bitNot
  have e1 : decide (0 ≤ -(a : Int) - 1) = false := by simp; omega
  have e2 : decide (0 ≤ -(b : Int) - 1) = false := by simp; omega
  rw [e1, e2]
  dsimp only [Builtin.bitNot]
  have e3 : (-(-(a : Int) - 1) - 1).toNat = a := by omega
  have e4 : (-(-(b : Int) - 1) - 1).toNat = b := by omega
  rw [e3, e4]
  omega
theorem bitXor_nat (a b : Nat) : Builtin.bitXor (a : Int) (b : Int) = ((a ^^^ b : Nat) : Int) := by
  rw [bitXor_and, bitAnd_nat]
  have := xor_add_and a b
  omega
theorem mul_and_pow (q i : Nat) : (q * 2 ^ i) &&& 2 ^ i = q % 2 * 2 ^ i := by
  have h := Nat.shiftLeft_and_distrib (a := q) (b := 1) (i := i)
  rw [Nat.and_one_is_mod, Nat.shiftLeft_eq, Nat.shiftLeft_eq, Nat.shiftLeft_eq, Nat.one_mul] at h
  exact h.symm
theorem low_and {n i : Nat} {fl : Int} (hfl : fl = 2 ^ i) : (Builtin.bitAnd ((n / 2 ^ i * 2 ^ i : Nat) : Int) fl ≠ 0) ↔ n.testBit i = true := by
  rw [hfl, show ((2 : Int) ^ i) = ((2 ^ i : Nat) : Int) from by rw [Int.natCast_pow]; rfl, bitAnd_nat, mul_and_pow, Nat.testBit_eq_decide_div_mod_eq, decide_eq_true_eq]
  have h2 : 0 < 2 ^ i := Nat.two_pow_pos i
  rcases Nat.mod_two_eq_zero_or_one (n / 2 ^ i) with e | e
  · rw [e]; simp
  · rw [e, Nat.one_mul]
    exact ⟨fun _ => rfl, fun _ => by omega⟩
theorem div_succ (n i : Nat) : n / 2 ^ i = 2 * (n / 2 ^ (i + 1)) + (n / 2 ^ i) % 2 := by
  rw [Nat.pow_succ, ← Nat.div_div_eq_div_mul]; omega
theorem low_xor {n i : Nat} {fl : Int} (hfl : fl = 2 ^ i) (h : n.testBit i = true) : Builtin.bitXor ((n / 2 ^ i * 2 ^ i : Nat) : Int) fl = ((n / 2 ^ (i + 1) * 2 ^ (i + 1) : Nat) : Int) := by
  rw [Nat.testBit_eq_decide_div_mod_eq, decide_eq_true_eq] at h
  rw [hfl, show ((2 : Int) ^ i) = ((2 ^ i : Nat) : Int) from by rw [Int.natCast_pow]; rfl, bitXor_and, bitAnd_nat, mul_and_pow, h, Nat.one_mul]
  have e : n / 2 ^ i * 2 ^ i = n / 2 ^ (i + 1) * 2 ^ (i + 1) + 2 ^ i := by
    conv => lhs; rw [div_succ n i, h]
    rw [Nat.add_mul, Nat.one_mul, Nat.pow_succ, Nat.mul_comm 2 (n / _), Nat.mul_assoc, Nat.mul_comm 2 (2 ^ i)]
  omega
theorem low_stay {n i : Nat} (h : n.testBit i = false) : n / 2 ^ (i + 1) * 2 ^ (i + 1) = n / 2 ^ i * 2 ^ i := by
  rw [Nat.testBit_eq_decide_div_mod_eq, decide_eq_false_iff_not] at h
  have e0 : n / 2 ^ i % 2 = 0 := by omega
  conv => rhs; rw [div_succ n i, e0]
  generalize n / 2 ^ (i + 1) = q
  rw [Nat.pow_succ, Nat.mul_comm 2 q, Nat.add_zero (q * 2), Nat.mul_assoc q 2, Nat.mul_comm 2 (2 ^ i)]
def bitsN (n x : Nat) : List Nat := (List.range n).filter (fun k => x.testBit k)
theorem bitsN_succ (i x : Nat) : bitsN (i + 1) x = bitsN i x ++ if x.testBit i then [i] else [] := by
  unfold bitsN
  rw [List.range_succ, List.filter_append]
  congr 1
  rw [List.filter_cons, List.filter_nil]
theorem bitsN_stop {x j k : Nat} (h : x / 2 ^ j = 0) : bitsN (j + k) x = bitsN j x := by
  unfold bitsN
  rw [List.range_add, List.filter_append]
  have hx : x < 2 ^ j := by
    have h2 : 0 < 2 ^ j := Nat.two_pow_pos j
    exact Nat.lt_of_not_le fun hle => by have := Nat.div_pos hle h2; omega
  have : List.filter (fun k => x.testBit k) (List.map (fun x => j + x) (List.range k)) = [] := by
    rw [List.filter_eq_nil_iff]
    intro a ha
    obtain ⟨b, _, rfl⟩ := List.mem_map.mp ha
    rw [Nat.testBit_lt_two_pow (Nat.lt_of_lt_of_le hx (Nat.pow_le_pow_right (by decide) (Nat.le_add_right _ _)))]
    simp
  rw [this, List.append_nil]
theorem bitsN_length (n x : Nat) : (bitsN n x).length ≤ n := by
  unfold bitsN
  exact Nat.le_trans (List.length_filter_le _ _) (by simp)

theorem at_Flag : True := by
  w_top off
  exact trivial
theorem flag_find (P : Params) : ∃ es n, (hd.heap_39 P).lookup 15 = some ⟨.type "dict", none, .dict es n, #[]⟩ ∧ (∀ e ∈ es, ∃ k : Int, Value.isInt k e.key = true ∧ e.hash = hashInt k) ∧
    ∀ i, i < 32 → ∀ u, ∃ tk, (findBy Value.isInt es (2 ^ i : Int)).getD (.str (baseText "0x" 16 (2 ^ i : Int)) u) = .str (W i) tk := by
  refine ⟨_, _, rfl, ?_, ?_⟩
  · intro e he
    have he := Array.mem_toList_iff.mpr he
    simp only [List.mem_cons, List.not_mem_nil, or_false] at he
    refine ⟨e.hash, ?_⟩
    rcases he with rfl | rfl | rfl | rfl | rfl | rfl | rfl | rfl | rfl | rfl <;> exact ⟨by decide, by decide⟩
  · intro i hi u
    have hc : i = 0 ∨ i = 1 ∨ i = 2 ∨ i = 3 ∨ i = 4 ∨ i = 5 ∨ i = 6 ∨ i = 7 ∨ i = 8 ∨ i = 9 ∨ i = 10 ∨ i = 11 ∨ i = 12 ∨ i = 13 ∨ i = 14 ∨ i = 15 ∨ i = 16 ∨ i = 17 ∨ i = 18 ∨ i = 19 ∨ i = 20 ∨ i = 21 ∨ i = 22 ∨ i = 23 ∨ i = 24 ∨ i = 25 ∨ i = 26 ∨ i = 27 ∨ i = 28 ∨ i = 29 ∨ i = 30 ∨ i = 31 := by omega
    rcases hc with rfl | rfl | rfl | rfl | rfl | rfl | rfl | rfl | rfl | rfl | rfl | rfl | rfl | rfl | rfl | rfl | rfl | rfl | rfl | rfl | rfl | rfl | rfl | rfl | rfl | rfl | rfl | rfl | rfl | rfl | rfl | rfl
    all_goals exact ⟨_, rfl⟩
theorem get_flag {w : World} {A : Around} {E : Value → Shared → Prop} {s : Shared} {prog : Program} {fl : Int} {i : Nat} {t u : Tok} {Q : Value → Shared → Prop} (X : (hd.heap_39 w.params).In s.heap) (hi : i < 32) (hfl : fl = 2 ^ i)
    (h : ∀ tk, Q (.str (W i) tk) { s with toks := s.toks + 1 }) : wpAny (model prog w) A (call (.builtin "dict.get") [.ref 15, .int fl t, .str (baseText "0x" 16 fl) u]) Q E s := by
  subst hfl
  obtain ⟨es, n, hl, hk, hf⟩ := flag_find w.params
  obtain ⟨tk, e⟩ := hf i hi u
  have hm : s.heap.MapOf (intKind prog w) 15 (fun k => findBy Value.isInt es k) := ⟨_, es, n, X _ _ hl, ⟨rfl, rfl, rfl⟩, rfl, hk, fun _ => rfl⟩
  exact call_meetsIn PySem.F.slot_dict_get hm.typeIs PySem.F.entry_dict_get (PySem.F.args_dict_get_3 _ _ _) (meets_dict_get_default (intKind prog w) 15 (intKind_is prog w _ t) (by decide) _) ⟨_, hm, e ▸ h tk⟩
theorem hex_len : ∀ i : Fin 32, (baseText "0x" 16 (2 ^ i.val : Int)).length ≤ 100 := by decide +kernel
theorem call_hex {w : World} {A : Around} {E : Value → Shared → Prop} {s : Shared} {prog : Program} {fl : Int} {i : Nat} {t : Tok} {Q : Value → Shared → Prop} (hi : i < 32) (hfl : fl = 2 ^ i)
    (h : Q (.str (baseText "0x" 16 fl) s.toks) { s with toks := s.toks + 1 }) : wpAny (model prog w) A (call (.builtin "hex") [.int fl t]) Q E s := by
  subst hfl
  exact P.hex_of_int h (by have := hex_len ⟨i, hi⟩; rw [sizeLine_eq]; simp only at this; omega)

theorem at_CWord : True := by
  w_top off
  exact trivial
theorem con_word (w : World) (mean mg mb) (x : Int) (t : Tok) (news : Led) (hx : 0 ≤ x) (hx2 : x < 32) :
    Con w mean mg mb 43 [.int x t] news 1 (fun v news' => ∃ t', v = .str (W x.toNat) t' ∧ news' = news) := by
  unfold Con; k_fill
  intro dp un gd cn cs a ccd cl outer A₀ base h₀ L m s Q E B F X N T hk hdp hun hret
  refine wpAny_call ?_
  k_dflt cell_enter
  w_strict k_steps
  · (rename News _ _ _ _ => N9)
    refine item_tupleE (y := W x.toNat) (News.isTup N9 (by k_mem)) (by omega) (by omega) (seqIndex_of hx (by simp only [List.length_cons, List.length_nil]; omega)) ?_ (fun tk9 => ?_)
    · have hc : x = 0 ∨ x = 1 ∨ x = 2 ∨ x = 3 ∨ x = 4 ∨ x = 5 ∨ x = 6 ∨ x = 7 ∨ x = 8 ∨ x = 9 := by omega
      rcases hc with rfl | rfl | rfl | rfl | rfl | rfl | rfl | rfl | rfl | rfl <;> exact ⟨_, rfl⟩
    · dsimp only
      k_steps
      exact hret _ _ _ _ (by assumption) (cb_drop (by assumption) (fun _ h => List.mem_cons_of_mem _ h)) ⟨_, rfl, rfl⟩
  · have h10 : 10 ≤ x := by omega
    refine add_strE (W_hex' h10 hx2) (mul0_len' h10 hx2) (fun t' tk' => ?_)
    dsimp only
    k_steps
    exact hret _ _ _ _ (by assumption) (cb_drop (by assumption) (fun _ h => List.mem_cons_of_mem _ h)) ⟨_, rfl, rfl⟩

theorem at_CPlaces : True := by
  w_top off
  exact trivial
theorem bit_test {x : Int} (hx : 0 ≤ x) (i : Nat) : ((x.fdiv (2 ^ (0 + (i : Int)).toNat)).fmod 2 == 1) = x.toNat.testBit i := by
  obtain ⟨n, rfl⟩ := Int.eq_ofNat_of_zero_le hx
  have e1 : (0 + (i : Int)).toNat = i := by omega
  rw [e1, show ((2 : Int) ^ i) = ((2 ^ i : Nat) : Int) by norm_cast, Int.fdiv_eq_ediv_of_nonneg _ (Int.natCast_nonneg _), Int.fmod_eq_emod_of_nonneg _ (by decide), ← Int.natCast_ediv, show ((2 : Int)) = ((2 : Nat) : Int) from rfl, ← Int.natCast_emod, Int.toNat_natCast, Nat.testBit_eq_decide_div_mod_eq]
  rw [Bool.eq_iff_iff]
  simp only [beq_iff_eq, decide_eq_true_eq]
  omega
theorem con_places (w : World) (mean mg mb) (x : Int) (t : Tok) (news : Led) (hx : 0 ≤ x) (hx2 : x < 512) :
    Con w mean mg mb 48 [.int x t] news 1 (fun v news' => ∃ l ys, v = .ref l ∧ news' = (l, lst ys) :: news ∧ Off1 l news ∧ IntsAre ys (((List.range 9).filter (fun k => x.toNat.testBit k)).map (fun (k : Nat) => (k : Int)))) := by
  unfold Con; k_fill
  intro dp un gd cn cs a ccd cl outer A₀ base h₀ L m s Q E B F X N T hk hdp hun hret
  refine wpAny_call ?_
  walk_at "MINE enterC"
  walk1
  walk1
  k_dflt (refine LCt.ListComp_T (F₀ := by k_asm) (by with_unfolding_all rfl) (by decide) (by rfl) (by decide) (by rfl) ?_)
  iterate 7 (first | walk1 | (dsimp only; walk1))
  refine LCt.CompSrcT.range (by rfl) (by k_asm) (by k_asm) (by assumption) (by first | decide | rfl) (by first | rfl | decide) (by first | size_fits | exact Nat.le_of_ble_eq_true rfl) ?_
  intro g9
  refine rest_T IsI (fun i => (i:Int)) (fun i => x.toNat.testBit i) _ trivial ?_ ?_
  · intro i v I oI C oC D ys m₂ h tk E' hi hv hC hx F N off ne
    obtain ⟨t9, rfl⟩ := hv
    k_steps
    · exact bit_test (by assumption) i
    · exact EltK.intro (by assumption) (by assumption) (fun p hp => hp) ⟨t9, by rw [Int.zero_add]⟩
    · exact EltK.intro (by assumption) (by assumption) (fun p hp => hp) trivial
  · intro ys hys D h tk FD ND O9
    dsimp only
    k_steps
    (rename Fr _ _ _ _ => F9)
    (rename News _ _ _ _ => N9)
    exact hret _ _ _ _ F9 (cb_drop N9 (fun p hp => by rcases List.mem_cons.mp hp with rfl | h; exact List.mem_cons_self; exact List.mem_cons_of_mem _ (List.mem_cons_of_mem _ h))) ⟨_, ys, rfl, rfl, O9.2, ints_of_paired hys⟩

theorem at_CPlain : True := by
  w_top off
  exact trivial
def plcN (y : Nat) : List Nat := (List.range 9).filter (fun k => y.testBit k)
def plainN (x y : Nat) : Nat := (plcN y).foldl (fun a k => a ^^^ (x * 2 ^ k)) 0
theorem con_plain (w : World) (mean mg mb) (x y : Int) (t u : Tok) (news : Led) (hx : 0 ≤ x) (hx2 : x < 2 ^ 17) (hy : 0 ≤ y) (hy2 : y < 512) :
    Con w mean mg mb 67 [.int x t, .int y u] news 2 (fun v news' => ∃ t', v = .int (plainN x.toNat y.toNat : Nat) t' ∧ news' = news) := by
  unfold Con; k_fill
  intro dp un gd cn cs a ccd cl outer A₀ base h₀ L m s Q E B F X N T hk hdp hun hret
  refine wpAny_call ?_
  k_dflt cell_enter
  (rename Fr _ _ _ _ => F0)
  replace F0 := Fr.conv F0 (lk2 (Str.ofString "other") (Str.ofString "number") (.int y u) (.int x t))
  walk_at "MINE to for"
  k_dflt (refine for_list (by k_asm) (by rfl) (by rfl) ?_)
  walk_at "MINE to call"
  k_dflt (refine' Con.use (con_places w mean mg mb y u _ hy hy2) ?k1 ?k2 ?k3 ?k4 ?k5 ?k6 ?k7 ?k8 ?_; (case k2 => k_asm); (case k1 => k_asm); (case k3 => k_asm); (case k4 => k_asm); (case k5 => k_asm); (case k6 => exact rfl); (case k7 => ktr_room); (case k8 => ktr_units))
  rintro v h1 tk1 news1 F1 N1 ⟨l, ys, rfl, rfl, off, hys⟩
  refine ⟨l, ys.toArray, _, (l, lst ys) :: news, (fun i m nw => nw = (l, lst ys) :: news ∧ ∃ (uu : Str → Option Value) (pv : Value), IsI (((plcN y.toNat).take i).foldl (fun a k => a ^^^ (x.toNat * 2 ^ k)) 0 : Nat) pv ∧ m = fun z => if z = Str.ofString "k" then uu z else if z = Str.ofString "product" then some pv else if z = Str.ofString "other" then some (.int y u) else if z = Str.ofString "number" then some (.int x t) else none), rfl, rfl, F1, N1, ?_, ?_, ?_, ?_⟩
  · rintro i m nw ⟨rfl, _⟩
    exact Or.inr ⟨_, List.mem_cons_self, rfl, _, rfl⟩
  · exact ⟨rfl, _, _, ⟨_, rfl⟩, upd1_0 (by decide) rfl⟩
  · rintro i v m₁ news₁ I oI h tk hv ⟨rfl, u9, _, ⟨tp9, rfl⟩, rfl⟩ offI ltI F9 N9
    obtain ⟨n9, t9, rfl, hn9⟩ := hys.at i v (by simpa using hv)
    have hk9 : ∃ k, (plcN y.toNat)[i]? = some k ∧ n9 = (k : Int) := by
      rw [List.getElem?_map] at hn9
      cases e : (plcN y.toNat)[i]? with
      | none => rw [show (List.filter (fun k => y.toNat.testBit k) (List.range 9))[i]? = none from e] at hn9; cases hn9
      | some k => rw [show (List.filter (fun k => y.toNat.testBit k) (List.range 9))[i]? = some k from e] at hn9; exact ⟨k, rfl, (Option.some.inj hn9).symm⟩
    obtain ⟨k9, hk9, rfl⟩ := hk9
    have hk9lt : k9 < 9 := by
      have := List.mem_of_getElem? hk9
      exact List.mem_range.mp (List.mem_filter.mp this).1
    clear hn9 hv hys
    k_steps
    have eN : Builtin.bitXor ((((plcN y.toNat).take i).foldl (fun a k => a ^^^ (x.toNat * 2 ^ k)) 0 : Nat) : Int) (x * 2 ^ (k9 : Int).toNat) = (((plcN y.toNat).take (i + 1)).foldl (fun a k => a ^^^ (x.toNat * 2 ^ k)) 0 : Nat) := by
      obtain ⟨x', rfl⟩ := Int.eq_ofNat_of_zero_le hx
      rw [Int.toNat_natCast, Int.toNat_natCast, show ((x' : Int) * 2 ^ k9) = ((x' * 2 ^ k9 : Nat) : Int) from by rw [Int.natCast_mul, Int.natCast_pow]; rfl, bitXor_nat, List.take_add_one, hk9, Option.toList_some, List.foldl_append]
      rfl
    exact TurnK.next (by assumption) (by assumption) (fun p hp => hp) offI ⟨rfl, _, _, ⟨_, congrArg (Value.int · _) eN⟩, upd1 (by decide)⟩
  · rintro h tk m' news' F9 N9 ⟨rfl, u9, _, ⟨tp9, rfl⟩, rfl⟩
    dsimp only
    k_steps
    refine hret _ _ _ _ (by assumption) (cb_drop (by assumption) (fun p hp => List.mem_cons_of_mem _ hp)) ⟨tp9, ?_, rfl⟩
    have e : (ys.toArray.size) = (plcN y.toNat).length := by simpa [plcN] using hys.length
    rw [e, List.take_length]
    rfl

theorem at_CPretty : True := by
  w_top off
  exact trivial
def flagsT (x : Nat) : Str := if x = 0 then Str.ofString "0x0" else Txt.join (Str.ofString ", ") ((bitsN 32 x).map W)
theorem con_pretty (w : World) (mean mg mb) (x : Int) (t : Tok) (news : Led) (hx : 0 ≤ x) (hx2 : x < 2 ^ 32) :
    Con w mean mg mb 22 [.int x t] news 1 (fun v news' => ∃ t', v = .str (flagsT x.toNat) t' ∧ news' = news) := by
  unfold Con; k_fill
  intro dp un gd cn cs a ccd cl outer A₀ base h₀ L m s Q E B F X N T hk hdp hun hret
  refine wpAny_call ?_
  k_dflt cell_enter
  (rename Fr _ _ _ _ => F0)
  replace F0 := Fr.conv F0 (lk1 (Str.ofString "flags") (.int x t))
  walk_at "MINE to for"
  k_dflt (refine for_range (by k_asm) (by rfl) (by rfl) ?_)
  iterate 7 (first | walk1 | (dsimp only; walk1))
  rename_i ln ha lnlt hb Fb Nb hR tkR t1 u1 v1 IR FR NR KR
  refine ⟨_, 0, 32, t1, u1, v1, 32, _, _, (fun i m nw => (x.toNat / 2 ^ i ≠ 0 ∨ x.toNat = 0) ∧ ∃ (vs : List Value) (u9 u8 : Str → Option Value) (fv : Value), nw = (ln, W.listOf vs.toArray vs.length) :: news ∧ StrsAre vs ((bitsN i x.toNat).map Mine.W) ∧ IsI ((x.toNat / 2 ^ i * 2 ^ i : Nat) : Int) fv ∧
    m = fun z => if z = Str.ofString "i" then u9 z else if z = Str.ofString "flag" then u8 z else if z = Str.ofString "flags" then some fv else if z = Str.ofString "names" then some (.ref ln) else none), rfl, rfl, FR, NR, IR, by decide, by rfl, ?_, ?_, ?_⟩
  · refine ⟨?_, [], fun _ => none, fun _ => none, .int x t, rfl, .nil, ⟨t, ?_⟩, ?_⟩
    · rw [Nat.pow_zero, Nat.div_one]; omega
    · rw [Nat.pow_zero, Nat.div_one, Nat.mul_one]; congr 1; omega
    · funext z
      by_cases e1 : z = Str.ofString "i"
      · subst e1; rfl
      · by_cases e2 : z = Str.ofString "flag"
        · subst e2; rfl
        · by_cases e3 : z = Str.ofString "flags"
          · subst e3; rfl
          · simp [e1, e2, e3]
  · rintro i ti m₁ news₁ I oI h tk hi ⟨hz, vs, u9, u8, _, rfl, hvs, ⟨tf, rfl⟩, rfl⟩ offI ltI F9 N9
    have hfl : (1 : Int) * 2 ^ (0 + (i : Int)).toNat = 2 ^ i := by rw [Int.one_mul, show (0 + (i : Int)).toNat = i by omega]
    have hlI : ln ≠ I := offI _ List.mem_cons_self
    have hnl : ∀ p ∈ news, p.1 ≠ ln := fun p hp => Nat.ne_of_lt (lnlt p hp)
    k_steps
    · refine call_hex hi hfl ?_
      dsimp only
      walk_at "MINE to builtin"
      refine get_flag (by k_in) hi hfl (fun tkW => ?_)
      dsimp only
      walk_at "MINE to builtin"
      refine append_K (by k_asm) (by k_asm) (Upd.tail (Ne.symm (offI _ List.mem_cons_self)) (Upd.head hnl)) ?_ ?_
      · intro hA FA NA
        dsimp only
        k_steps
        · (rename Builtin.bitAnd _ _ ≠ 0 => hb1)
          (rename Builtin.bitXor _ _ ≠ 0 => hb2)
          have hbit := (low_and hfl).mp hb1
          rw [low_xor hfl hbit] at hb2
          (rename Fr _ _ _ _ => FE)
          (rename News _ _ _ _ => NE)
          refine TurnK.next FE NE (news' := (ln, W.listOf (vs ++ [Value.str (Mine.W i) tkW]).toArray (vs ++ [Value.str (Mine.W i) tkW]).length) :: news) ?_ (fun p hp => by rcases List.mem_cons.mp hp with rfl | hp; exact hlI; exact offI _ (List.mem_cons_of_mem _ hp)) ⟨Or.inl (fun e => hb2 (by rw [e]; simp)), vs ++ [Value.str (Mine.W i) tkW], _, _, _, rfl, ?_, ⟨_, congrArg (Value.int · _) (low_xor hfl hbit)⟩, upd2 (by decide) (by decide) (by decide)⟩
          · intro p hp
            simpa using hp
          · rw [bitsN_succ, hbit, List.map_append]
            exact StrsAre.append' hvs (.cons _ _ .nil)
        · (rename Builtin.bitAnd _ _ ≠ 0 => hb1)
          (rename Builtin.bitXor _ _ = 0 => hb2)
          have hbit := (low_and hfl).mp hb1
          rw [low_xor hfl hbit] at hb2
          dsimp only [TurnK]
          walk_at "MINE to builtin"
          (rename News _ _ _ _ => NE)
          have hq0 : x.toNat / 2 ^ (i + 1) = 0 := by
            have h2 : 0 < 2 ^ (i + 1) := Nat.two_pow_pos _
            rcases Nat.eq_zero_or_pos (x.toNat / 2 ^ (i + 1)) with e | e
            · exact e
            · exact absurd (Nat.mul_pos e h2) (by omega)
          have hx0 : x.toNat ≠ 0 := fun e => by rw [e] at hbit; simp at hbit
          have hall : bitsN 32 x.toNat = bitsN (i + 1) x.toNat := by
            have := bitsN_stop (k := 32 - (i + 1)) hq0
            rwa [show i + 1 + (32 - (i + 1)) = 32 by omega] at this
          refine join_list (ys := (bitsN 32 x.toNat).map Mine.W) (News.isList NE (List.mem_cons_of_mem _ List.mem_cons_self)) ?_ (words_fit (Nat.le_trans (bitsN_length _ _) (by decide)) (Str.ofString ", ") (by decide)) (fun tj kj => ?_)
          · rw [hall, bitsN_succ, hbit, List.map_append]
            simpa using StrsAre.append' hvs (.cons _ _ .nil)
          · dsimp only
            k_steps
            exact hret _ _ _ _ (by assumption) (cb_drop (by assumption) (fun p hp => List.mem_cons_of_mem _ (List.mem_cons_of_mem _ hp))) ⟨_, congrArg (Value.str · _) (by unfold flagsT; rw [if_neg hx0]), rfl⟩
      · have := bitsN_length i x.toNat
        have e := hvs.length
        rw [List.length_map] at e
        rw [List.size_toArray, sizeLine_eq]
        omega
    · (rename Fr _ _ _ _ => FE)
      (rename News _ _ _ _ => NE)
      (rename Builtin.bitAnd _ _ = 0 => hb1)
      have hbit : x.toNat.testBit i = false := by
        cases e : x.toNat.testBit i with
        | false => rfl
        | true => exact absurd hb1 ((low_and hfl).mpr e)
      refine TurnK.next FE NE (news' := (ln, W.listOf vs.toArray vs.length) :: news) (fun p hp => hp) offI ⟨?_, vs, _, _, _, rfl, ?_, ⟨_, congrArg (fun k : Nat => Value.int (k : Int) _) (low_stay hbit).symm⟩, upd2' (by decide)⟩
      · rcases hz with hz | hz
        · refine Or.inl fun e => hz ?_
          have := div_succ x.toNat i
          rw [Nat.testBit_eq_decide_div_mod_eq, decide_eq_false_iff_not] at hbit
          omega
        · exact Or.inr hz
      · rw [bitsN_succ, hbit]
        simpa using hvs
  · rintro h tk m' news' F9 N9 ⟨hz, vs, u9, u8, _, rfl, hvs, ⟨tf, rfl⟩, rfl⟩
    dsimp only
    walk_at "MINE to builtin"
    have hx0 : x.toNat = 0 := by
      rcases hz with hz | hz
      · exact absurd (Nat.div_eq_of_lt (by omega)) hz
      · exact hz
    have hvs0 : vs = [] := by
      rw [hx0, show bitsN 32 0 = [] by decide] at hvs
      exact hvs.nil_inv
    subst hvs0
    refine P.hex_of_int ?_ ?_
    · dsimp only
      walk_at "MINE to builtin"
      refine append_K (by k_asm) (by k_asm) (Upd.head (fun p hp => Nat.ne_of_lt (lnlt p hp))) ?_ (by decide)
      intro hA FA NA
      dsimp only
      walk_at "MINE to builtin"
      (rename News _ _ _ _ => NE)
      refine join_list (ys := [Str.ofString "0x0"]) ⟨_, (NE _ List.mem_cons_self).1, rfl, _, rfl⟩ ?_ (by decide) (fun tj kj => ?_)
      · rw [hx0]
        exact .cons _ _ .nil
      · dsimp only
        k_steps
        exact hret _ _ _ _ (by assumption) (cb_drop (by assumption) (fun p hp => List.mem_cons_of_mem _ hp)) ⟨_, congrArg (Value.str · _) (by unfold flagsT; rw [if_pos hx0]; decide), rfl⟩
    · rw [hx0]; decide

theorem at_ListR : True := by
  w_top off
  exact trivial
section
variable {prog : Program} {w : World} {A : Around} {E : Value → Shared → Prop} {s : Shared} {h₀ : Heap} {L D b : Addr} {m : Str → Option Value} {news news' : List (Addr × Obj)}
theorem inplace_iadd {D b : Addr} {Q : Value → Shared → Prop} (ha : s.TypeIs (.ref D) "list") (hb : s.TypeIs (.ref b) "list") (hfill : fillsNumberSlot (.type "list") "add" = pure false)
    (hc : wpAny (model prog w) A (call (.builtin "list.__iadd__") [.ref D, .ref b]) Q E s) : wpAny (model prog w) A (inplaceOp .Add (.ref D) (.ref b)) Q E s := by
  unfold inplaceOp
  refine wpAny_holding ?_
  have hl : typeLookup (.type "list") (dunderI "add") = pure (some (.builtin "list.__iadd__")) := PySem.F.slot_list_iadd.lookup
  have hs : isSeqSlot (some (.builtin "list.__iadd__")) = true := by decide +kernel
  have hfi : fillsInplaceSlot (.type "list") "add" (Operator.Add == .Add) = pure false := by
    unfold fillsInplaceSlot
    show (typeLookup (.type "list") (dunderI "add") >>= fun fi => pure (fi.isSome && !isSeqSlot fi)) = pure false
    rw [hl, pure_bind, hs]; rfl
  have hsi : seqSlot? (.type "list") (dunderI "add") = pure (some (.builtin "list.__iadd__")) := PySem.seqSlot_of hl hs
  refine wpAny_bind (wpAny_typeOf ha (wpAny_bind (wpAny_of_eq hfi ?_)))
  show wpAny (model prog w) A (if false = true then _ else _) Q E s
  rw [if_neg Bool.false_ne_true]
  refine wpAny_bind (wpAny_binaryOp1_none (nm := "add") ha hb hfill ?_)
  refine wpAny_bind (wpAny_of_eq hsi ?_)
  exact wpAny_bind (wpAny_rule hc)
theorem fills_list : fillsNumberSlot (.type "list") "add" = pure false := noFill_list_add
theorem iadd_lists {its its2 : Array Value} {n n2 : Nat} {Q : Value → Shared → Prop} (F : Fr h₀ L s.heap m) (N : News h₀ L s.heap news) (hb : (b, W.listOf its2 n2) ∈ news) (hne : its2.size ≠ 0)
    (U : Upd D (W.listOf its n) (W.listOf (its ++ its2) (n + 1)) news news') (hz : its.size + its2.size ≤ 1000)
    (h : ∀ h', Fr h₀ L h' m → News h₀ L h' news' → Q (.ref D) { s with heap := h' }) : wpAny (model prog w) A (inplaceOp .Add (.ref D) (.ref b)) Q E s := by
  obtain ⟨pre, post, rfl, rfl, a, c⟩ := U.split
  have z := N (D, W.listOf its n) (List.mem_append.mpr (.inr (.head _)))
  have hsz : (1000 : Nat) ≤ sizeLine := by rw [sizeLine_eq]; decide
  refine inplace_iadd ⟨_, z.1, rfl⟩ ⟨_, (N _ hb).1, rfl⟩ fills_list ?_
  refine call_meets PySem.F.slot_list_iadd ⟨_, z.1, rfl⟩ PySem.F.entry_list_iadd (PySem.F.args_list_iadd_2 _ _) (PySem.AutoSeq1.list___iadd___list_list_0 D its n b its2 n2 ?_ (by omega) (by omega)) ⟨z.1, (N _ hb).1, h _ (F.change (Heap.SameBut.update ..) z.2.1 z.2.2) (kl_turn _ N a c rfl ?_)⟩
  · exact extend_door (by omega)
  · rw [Array.size_append]; omega
end

theorem at_CPairs : True := by
  w_top off
  exact trivial
def chrS (n : Nat) : Str := ⟨#[n]⟩
def brk (w : Str) : Str := Str.ofString "[" ++ w ++ Str.ofString "]"
def pairT (lo : Str) (fig : Nat) (w : Str) : List Str := [brk w, if w = lo then chrS fig else chrS (64 + fig)]
def pairsT (lo : Str) (fig : Nat) (ws : List Str) : List Str := ws.flatMap (pairT lo fig)
theorem pairsT_length (lo : Str) (fig : Nat) : ∀ ws : List Str, (pairsT lo fig ws).length = 2 * ws.length
  | [] => rfl
  | w :: r => by
    have := pairsT_length lo fig r
    unfold pairsT at this ⊢
    rw [List.flatMap_cons, List.length_append, this, List.length_cons]
    show 2 + _ = _
    omega
theorem pairsT_take {lo : Str} {fig i : Nat} {ws : List Str} {x : Str} (hx : ws[i]? = some x) : pairsT lo fig (ws.take (i + 1)) = pairsT lo fig (ws.take i) ++ pairT lo fig x := by
  unfold pairsT
  rw [List.take_add_one, hx, Option.toList_some, List.flatMap_append, List.flatMap_singleton]
theorem con_pairs (w : World) (mean mg mb) (lw : Addr) (ow : Obj) (vs : List Value) (nw : Nat) (ws : List Str) (lo : Str) (tl tf : Tok) (fig : Nat) (news : Led)
    (hmem : (lw, ow) ∈ news) (hcl : ow.cls = .type "list") (hdat : ow.data = .seq vs.toArray nw) (hvs : StrsAre vs ws) (hwl : ∀ x ∈ ws, x.length ≤ 1000) (hws : ws.length ≤ 100) (hfig : fig < 2) :
    Con w mean mg mb 55 [.ref lw, .str lo tl, .int (fig : Int) tf] news 1 (fun v news' => ∃ l ys n, v = .ref l ∧ news' = (l, W.listOf ys.toArray n) :: news ∧ (∀ p ∈ news, p.1 < l) ∧ StrsAre ys (pairsT lo fig ws)) := by
  unfold Con; k_fill
  intro dp un gd cn cs a ccd cl outer A₀ base h₀ L m s Q E B F X N T hk hdp hun hret
  refine wpAny_call ?_
  k_dflt cell_enter
  (rename Fr _ _ _ _ => F0)
  replace F0 := Fr.conv F0 (lk3 (Str.ofString "figure") (Str.ofString "lowest") (Str.ofString "words") (.int (fig : Int) tf) (.str lo tl) (.ref lw))
  walk_at "MINE to for"
  k_dflt (refine for_list (by k_asm) (by rfl) (by rfl) ?_)
  walk1
  rename_i lp ha lplt hb FR NR
  refine ⟨lw, vs.toArray, _, _, (fun i m nw => ∃ (ys : List Value) (n : Nat) (u9 : Str → Option Value), nw = (lp, W.listOf ys.toArray n) :: news ∧ StrsAre ys (pairsT lo fig (ws.take i)) ∧
    m = fun z => if z = Str.ofString "word" then u9 z else if z = Str.ofString "pairs" then some (.ref lp) else if z = Str.ofString "figure" then some (.int (fig : Int) tf) else if z = Str.ofString "lowest" then some (.str lo tl) else if z = Str.ofString "words" then some (.ref lw) else none), rfl, rfl, FR, NR, ?_, ?_, ?_, ?_⟩
  · rintro i m nw ⟨ys, n, u9, rfl, _⟩
    exact Or.inr ⟨_, List.mem_cons_of_mem _ hmem, hcl, _, hdat⟩
  · refine ⟨[], 0, fun _ => none, rfl, .nil, ?_⟩
    funext z
    by_cases e1 : z = Str.ofString "word"
    · subst e1; rfl
    · simp [e1]
  · rintro i v m₁ news₁ I oI h tk hv ⟨ys, n, u9, rfl, hys, rfl⟩ offI ltI F9 N9
    obtain ⟨x, tx, rfl, hx⟩ := hvs.item i v (by simpa using hv)
    have hlI : lp ≠ I := offI _ List.mem_cons_self
    have hnl : ∀ p ∈ news, p.1 ≠ lp := fun p hp => Nat.ne_of_lt (lplt p hp)
    have hil : i < ws.length := by
      rcases Nat.lt_or_ge i ws.length with h | h
      · exact h
      · rw [List.getElem?_eq_none h] at hx; cases hx
    have hyl : ys.length = 2 * i := by
      rw [hys.length, pairsT_length, List.length_take]; omega
    have hxl : x.length ≤ 1000 := hwl x (List.mem_of_getElem? hx)
    walk_at "MINE to inplace"
    all_goals (
      walk_at "MINE to inplace"
      (rename News _ _ _ _ => N8)
      (rename _ < _ ∧ _ < _ ∧ AllLt _ _ => hlt)
      refine iadd_lists (by k_asm) N8 List.mem_cons_self (by show (2 : Nat) ≠ 0; decide) (Upd.tail (Nat.ne_of_gt hlt.2.1) (Upd.tail (Ne.symm hlI) (Upd.head hnl))) (by rw [List.size_toArray, hyl]; show 2 * i + 2 ≤ 1000; omega) ?_
      intro hA FA NA
      dsimp only
      k_steps
      (rename (_ == _) = _ => hc)
      (rename News _ _ _ _ => N7)
      refine TurnK.next (by assumption) N7 (news' := (lp, W.listOf (ys ++ [_, _]).toArray (n + 1)) :: news) (fun p hp => by rcases List.mem_cons.mp hp with rfl | hp; exact List.mem_cons_of_mem _ List.mem_cons_self; exact List.mem_cons_of_mem _ (List.mem_cons_of_mem _ (by simpa using hp)))
        (fun p hp => by rcases List.mem_cons.mp hp with rfl | hp; exact hlI; exact offI _ (List.mem_cons_of_mem _ hp)) ⟨ys ++ [_, _], n + 1, _, rfl, ?_, upd1 (by decide)⟩
      rw [pairsT_take hx]
      refine StrsAre.append' hys ?_
      unfold pairT
      first
      | (rw [if_pos (eq_of_beq hc)]; exact .cons _ _ (.cons _ _ .nil))
      | (rw [if_neg (by simpa using hc)]; rw [show chrS (64 + fig) = ⟨#[(64 + (fig : Int)).toNat]⟩ from by unfold chrS; congr 2]; exact .cons _ _ (.cons _ _ .nil)))
  · rintro h tk m' news' F9 N9 ⟨ys, n, u9, rfl, hys, rfl⟩
    dsimp only
    k_steps
    rw [List.size_toArray, hvs.length, List.take_length] at hys
    exact hret _ _ _ _ (by assumption) (by assumption) ⟨lp, ys, n, rfl, rfl, lplt, hys⟩

theorem at_IterR : True := by
  w_top off
  exact trivial
section
variable {prog : Program} {w : World} {A : Around} {E : Value → Shared → Prop} {s : Shared} {h₀ : Heap} {L : Addr} {m : Str → Option Value} {news : List (Addr × Obj)} {g : Obj → List (Addr × Obj)} {it l : Addr} {io : Obj} {i : Nat}
/-- an iterator over the list at l, at place i -/
def IterAt (o : Obj) (l : Addr) (i : Nat) : Prop := o.cls = .type "list_iterator" ∧ o.data = .fields #[.ref l, .int i 0]
theorem special_next {items : Array Value} {x : Value} {Q : Option Value → Shared → Prop} (hit : s.heap.IsListIter it l i) (hl : s.heap.IsList l items) (hx : items[i]? = some x)
    (hQ : ∀ h', h'.IsListIter it l (i + 1) → Heap.SameBut it s.heap h' → Q (some x) { s with heap := h' }) : wpAny (model prog w) A (callSpecial? (.ref it) (Str.ofString "__next__")) Q E s := by
  obtain ⟨o, ho, hc, hd⟩ := id hit
  obtain ⟨ol, hol, _, nl, hdl⟩ := hl
  refine wpAny_callSpecial?_slot (name := Str.ofString "__next__") hit.typeIs slot_listiter_next (wpAny_call_entry slot_listiter_next hit.typeIs entry_listiter_next ?_ (args_listiter_next _))
  show wpAny _ _ (field (.ref it) 0 >>= _) _ _ s
  refine wpAny_bind (wpAny_field ho hd (x := .ref l) rfl ?_)
  show wpAny _ _ (if (Value.ref l == Value.none) = true then _ else _) _ _ s
  rw [if_neg (show ¬ ((Value.ref l == Value.none) = true) from Bool.false_ne_true)]
  show wpAny _ _ (field (.ref it) 1 >>= _) _ _ s
  refine wpAny_bind (wpAny_field ho hd (x := .int i 0) rfl ?_)
  show wpAny _ _ (seqItems? (.ref l) >>= _) _ _ s
  refine wpAny_bind (wpAny_seqItems hol hdl ?_)
  simp only [Int.toNat_natCast, hx]
  refine wpAny_bind (wpAny_setField ho hd (by simp) (wpAny_pure ⟨x, rfl, hQ _ ?_ (Heap.SameBut.update ..)⟩))
  exact ⟨_, Heap.get?_update_self _ ho (Obj.isFreed_of_fields (Obj.data_mapFields hd _)), (Obj.cls_mapFields ..).trans hc, by
    rw [Obj.data_mapFields hd]; simp [rawInt]⟩
theorem next_list {items : Array Value} {x : Value} {Q : Value → Shared → Prop} (F : Fr h₀ L s.heap m) (N : News h₀ L s.heap news) (U : UpdF it io news g) (hi : IterAt io l i) (hl : s.heap.IsList l items) (hx : items[i]? = some x)
    (h : ∀ h' o', Fr h₀ L h' m → News h₀ L h' (g o') → IterAt o' l (i + 1) → Q x { s with heap := h' }) : wpAny (model prog w) A (call (.builtin "next") [.ref it]) Q E s := by
  obtain ⟨pre, post, hp, hg, a, b⟩ := U.split
  have hm := N (it, io) (by rw [hp]; exact List.mem_append_right _ (.head _))
  have hit : s.heap.IsListIter it l i := ⟨io, hm.1, hi.1, hi.2⟩
  refine Calls.call_function_entry (by decide +kernel) (by decide +kernel) kdk_entry_next (kdk_args_next _) ?_
  unfold Builtin.«next»
  refine wpAny_bind (m := someArgs "next" 1 2 _) (wpAny_of_eq (a := [Value.ref it]) (by first | rfl | kernel_rfl!) ?_)
  dsimp only
  refine wpAny_bind (wpAny_specialOf (name := Str.ofString "__next__") hit.typeIs slot_listiter_next.lookup ?_)
  refine wpAny_ite_split (fun hab => absurd hab (by decide)) (fun _ => ?_)
  refine wpAny_bind (special_next hit hl hx fun h' hit' hs => ?_)
  obtain ⟨o', ho', hc', hd'⟩ := hit'
  exact wpAny_pure ⟨_, rfl, h h' o' (F.change hs hm.2.1 hm.2.2) (hg o' ▸ (show News h₀ L s.heap (pre ++ (it, io) :: post) from hp ▸ N).setIn a b hs ho') ⟨hc', hd'⟩⟩
theorem iter_list {items : Array Value} {Q : Value → Shared → Prop} (F : Fr h₀ L s.heap m) (N : News h₀ L s.heap news) (hl : s.heap.IsList l items)
    (h : ∀ (I : Addr) h' oI, Fr h₀ L h' m → News h₀ L h' ((I, oI) :: news) → (∀ p ∈ news, p.1 < I) → IterAt oI l 0 → Q (.ref I) { s with heap := h' }) : wpAny (model prog w) A (call (.builtin "iter") [.ref l]) Q E s := by
  refine Calls.call_function_entry (by decide +kernel) (by decide +kernel) kdk_entry_iter (kdk_args_iter _) ?_
  unfold Builtin.«iter»
  refine wpAny_bind (m := someArgs "iter" 1 2 _) (wpAny_of_eq (a := [Value.ref l]) (by first | rfl | kernel_rfl!) ?_)
  show wpAny _ _ (pyIter (.ref l) >>= _) _ _ _
  refine wpAny_bind (wpAny_pyIter_list hl ?_)
  exact wpAny_pure ⟨_, rfl, h _ _ _ (F.push _) (News.push F N _ rfl) (fun q hq => Heap.lt_size (N q hq).1) ⟨rfl, rfl⟩⟩

theorem UpdF.self {d : Addr} {o : Obj} {l : List (Addr × Obj)} {g : Obj → List (Addr × Obj)} (U : UpdF d o l g) : g o = l := by
  induction U with
  | head _ => rfl
  | tail _ _ ih => exact congrArg _ ih
theorem UpdF.other {d : Addr} {o : Obj} {l : List (Addr × Obj)} {g : Obj → List (Addr × Obj)} (U : UpdF d o l g) (o' : Obj) : UpdF d o' (g o') g := by
  induction U with
  | head h => exact .head h
  | tail h _ ih => exact .tail h ih
/-- what a while's turn leaves -/
def WhileEnd (h₀ : Heap) (L : Addr) (J : Nat → (Str → Option Value) → List (Addr × Obj) → Prop) (n : Nat) (s : Shared) (Q : Flow → Shared → Prop) (f : Flow) (s₃ : Shared) : Prop :=
  match f with
  | .ret v => Q (.ret v) s₃
  | .brk => Q .next s₃
  | _ => ∃ k h' tk m' news', k < n ∧ s₃ = { s with heap := h', toks := tk } ∧ Fr h₀ L h' m' ∧ News h₀ L h' news' ∧ J k m' news'
theorem WhileEnd.next {J : Nat → (Str → Option Value) → List (Addr × Obj) → Prop} {n k : Nat} {Q : Flow → Shared → Prop} {h' : Heap} {tk : Nat} {m' : Str → Option Value} {news' : List (Addr × Obj)} (F : Fr h₀ L h' m') (N : News h₀ L h' news') (hk : k < n) (hJ : J k m' news') :
    WhileEnd h₀ L J n s Q .next { s with heap := h', toks := tk } := ⟨k, h', tk, m', news', hk, rfl, F, N, hJ⟩
theorem while_K {env : Env} {test : Expr} {body orelse : List Stmt} {pos : Pos} {Q : Flow → Shared → Prop} (F : Fr h₀ L s.heap m) (N : News h₀ L s.heap news) (J : Nat → (Str → Option Value) → List (Addr × Obj) → Prop) (n : Nat) (hJ : J n m news)
    (turn : ∀ n m₁ news₁ h tk, J n m₁ news₁ → Fr h₀ L h m₁ → News h₀ L h news₁ →
      wpAny (model prog w) A (isTrue test env (eval test env)) (fun b s₂ => if b = true then wpAny (model prog w) A (execs body env) (WhileEnd h₀ L J n s Q) E s₂ else wpAny (model prog w) A (execs orelse env) Q E s₂) E { s with heap := h, toks := tk })
    (hE : PassesOwn (model prog w) A env E := by passes_own) :
    wpAny (model prog w) A (exec (.While test body orelse pos) env) Q E s := by
  refine wpAny_While (codeAny_whileLoop (fun k s' => ∃ h' tk m' news', s' = { s with heap := h', toks := tk } ∧ Fr h₀ L h' m' ∧ News h₀ L h' news' ∧ J k m' news') ?_ n ⟨s.heap, s.toks, m, news, rfl, F, N, hJ⟩)
  rintro k s' ⟨h', tk, m', news', rfl, F', N', hJ'⟩
  refine wpAny_passesOwn hE (wpAny_mono (turn k m' news' h' tk hJ' F' N') (fun b s₂ hb => ?_) fun _ _ e => e)
  cases b with
  | false => simp only [Bool.false_eq_true, if_false] at hb ⊢; exact wpAny_passesOwn hE hb
  | true =>
    simp only [if_true] at hb ⊢
    refine wpAny_passesOwn hE (wpAny_mono hb (fun f s₃ h₃ => ?_) fun _ _ e => e)
    cases f with
    | ret v => exact h₃
    | brk => exact h₃
    | next => obtain ⟨k', h'', tk'', m'', news'', hlt, e, r⟩ := h₃; exact ⟨k', hlt, h'', tk'', m'', news'', e, r⟩
    | cont => obtain ⟨k', h'', tk'', m'', news'', hlt, e, r⟩ := h₃; exact ⟨k', hlt, h'', tk'', m'', news'', e, r⟩
end

theorem at_CParse : True := by
  w_top off
  exact trivial
/-- the octets of a row of figures, the highest first: all but the last bear the 64 -/
def encF : List Nat → List Int
  | [] => []
  | [d] => [(d : Int)]
  | d :: r => ((64 + d : Nat) : Int) :: encF r
def valF (l : List Nat) : Nat := l.foldl (fun v d => v * 64 + d) 0
theorem valF_snoc (l : List Nat) (d : Nat) : valF (l ++ [d]) = valF l * 64 + d := by
  unfold valF; rw [List.foldl_append]; rfl
def headO (d : Nat) (rest : List Nat) : Nat := if rest = [] then d else 64 + d
theorem encF_cons (d : Nat) (rest : List Nat) : encF (d :: rest) = (headO d rest : Int) :: encF rest := by
  cases rest with
  | nil => rfl
  | cons e r => rfl
theorem encF_at : ∀ (done : List Nat) (d : Nat) (rest : List Nat), (encF (done ++ d :: rest))[done.length]? = some (headO d rest : Int)
  | [], d, rest => by rw [List.nil_append, encF_cons]; rfl
  | e :: r, d, rest => by
    rw [List.cons_append, encF_cons, List.length_cons, List.getElem?_cons_succ]
    exact encF_at r d rest
theorem encF_length : ∀ l : List Nat, (encF l).length = l.length
  | [] => rfl
  | d :: r => by rw [encF_cons, List.length_cons, List.length_cons, encF_length r]
theorem and64_head {d : Nat} (rest : List Nat) (h : d < 64) : (Builtin.bitAnd (headO d rest : Int) 64 ≠ 0) ↔ rest ≠ [] := by
  have h1 : ∀ d : Fin 64, Builtin.bitAnd ((64 + d.val : Nat) : Int) 64 ≠ 0 := by decide +kernel
  have h2 : ∀ d : Fin 64, Builtin.bitAnd (d.val : Int) 64 = 0 := by decide +kernel
  unfold headO
  by_cases e : rest = []
  · rw [if_pos e]; exact ⟨fun q => absurd (h2 ⟨d, h⟩) q, fun q => absurd e q⟩
  · rw [if_neg e]; exact ⟨fun _ => e, fun _ => h1 ⟨d, h⟩⟩
theorem and63_head {d : Nat} (rest : List Nat) (h : d < 64) : Builtin.bitAnd (headO d rest : Int) 63 = (d : Int) := by
  rw [bitAnd_m6]
  unfold headO
  split <;> omega
theorem or_shift {v d : Nat} (h : d < 64) : Builtin.bitOr ((v : Int) * 2 ^ 6) (d : Int) = ((v * 64 + d : Nat) : Int) := by
  rw [show ((v : Int) * 2 ^ 6) = ((v * 64 : Nat) : Int) by omega, bitOr_nat]
  have := Nat.shiftLeft_add_eq_or_of_lt (a := v) (i := 6) (b := d) h
  rw [Nat.shiftLeft_eq] at this
  exact congrArg _ this.symm

theorem foldF_lt : ∀ (l : List Nat) (v : Nat), (∀ d ∈ l, d < 64) → l.foldl (fun v d => v * 64 + d) v + 1 ≤ (v + 1) * 64 ^ l.length
  | [], v, _ => by simp
  | d :: r, v, h => by
    have h1 := foldF_lt r (v * 64 + d) (fun e he => h e (List.mem_cons_of_mem _ he))
    have h2 := h d List.mem_cons_self
    rw [List.foldl_cons, List.length_cons, Nat.pow_succ, Nat.mul_comm (64 ^ r.length) 64, ← Nat.mul_assoc]
    exact Nat.le_trans h1 (Nat.mul_le_mul_right _ (by omega))
theorem valF_lt (l : List Nat) (h : ∀ d ∈ l, d < 64) : valF l < 64 ^ l.length := by
  have := foldF_lt l 0 h
  rw [Nat.zero_add, Nat.one_mul] at this
  exact this
theorem valF_bits {l : List Nat} (h : ∀ d ∈ l, d < 64) (hl : l.length ≤ 30) : (Builtin.Int.intBits ((valF l : Nat) : Int) : Int) + 6 ≤ 2 ^ 27 := by
  have h1 := valF_lt l h
  have h2 : Builtin.Int.intBits ((valF l : Nat) : Int) ≤ 180 := intBits_le_iff.mpr (by
    rw [Int.natAbs_natCast]
    exact Nat.lt_of_lt_of_le h1 (Nat.le_trans (Nat.pow_le_pow_right (by decide) hl) (by decide)))
  omega
theorem updVB {v b : Str} {a1 a2 a3 b1 b3 : Value} {m₀ : Str → Option Value} :
    (fun y => if y = v then some a3 else if y = b then some b3 else if y = v then some a2 else if y = v then some a1 else if y = b then some b1 else m₀ y) = fun z => if z = v then some a3 else if z = b then some b3 else m₀ z := by
  funext z
  by_cases h1 : z = v
  · simp [h1]
  · by_cases h2 : z = b
    · simp [h1, h2]
    · simp [h1, h2]
theorem con_parse (w : World) (mean mg mb) (it l : Addr) (io ol : Obj) (nl : Nat) (g : Obj → Led) (vs : List Value) (ns : List Int) (j : Nat) (dig : List Nat) (news : Led)
    (U : UpdF it io news g) (hio : IterAt io l j) (hl : ∀ o, (l, ol) ∈ g o) (hcl : ol.cls = .type "list") (hdat : ol.data = .seq vs.toArray nl) (hvs : IntsAre vs ns) (hdig : ∀ d ∈ dig, d < 64) (h0 : dig ≠ []) (hlen : dig.length ≤ 30)
    (hns : ∀ i n, (encF dig)[i]? = some n → ns[j + i]? = some n) :
    Con w mean mg mb 29 [.ref it] news 1 (fun v news' => ∃ t' o', v = .int (valF dig : Nat) t' ∧ news' = g o' ∧ IterAt o' l (j + dig.length)) := by
  unfold Con; k_fill
  intro dp un gd cn cs a ccd cl outer A₀ base h₀ L m s Q E B F X N T hk hdp hun hret
  refine wpAny_call ?_
  k_dflt cell_enter
  (rename Fr _ _ _ _ => F0)
  replace F0 := Fr.conv F0 (lk1 (Str.ofString "iterator") (.ref it))
  walk_at "MINE to builtin"
  (rename News _ _ _ _ => N0)
  obtain ⟨d0, r0, rfl⟩ : ∃ d r, dig = d :: r := by
    cases dig with
    | nil => exact absurd rfl h0
    | cons d r => exact ⟨d, r, rfl⟩
  obtain ⟨tb, hb⟩ := hvs.get (j + 0) _ (hns 0 _ (encF_at [] d0 r0))
  have hl0 : (l, ol) ∈ news := UpdF.self U ▸ hl io
  refine next_list (items := vs.toArray) (x := .int (headO d0 r0 : Nat) tb) F0 N0 U hio ⟨ol, (N0 _ hl0).1, hcl, nl, hdat⟩ (by simpa using hb) ?_
  intro h1 o1 F1 N1 hio1
  clear F0
  dsimp only
  walk_at "MINE to while"
  k_dflt (refine while_K (by k_asm) (by k_asm) (fun n m nw => ∃ (done : List Nat) (d : Nat) (rest : List Nat) (o : Obj) (bv vv : Value), d0 :: r0 = done ++ d :: rest ∧ n = rest.length ∧ nw = g o ∧ IterAt o l (j + done.length + 1) ∧ IsI (valF (done ++ [d]) : Nat) vv ∧ IsI (headO d rest : Nat) bv ∧
    m = fun z => if z = Str.ofString "val" then some vv else if z = Str.ofString "b" then some bv else if z = Str.ofString "iterator" then some (.ref it) else none) r0.length ?_ ?_)
  · have e0 : Builtin.bitAnd (headO d0 r0 : Int) 63 = ((valF ([] ++ [d0]) : Nat) : Int) := by
      rw [and63_head r0 (hdig d0 List.mem_cons_self), valF_snoc]; simp [valF]
    exact ⟨[], d0, r0, o1, _, _, rfl, rfl, rfl, hio1, ⟨_, congrArg (Value.int · _) e0⟩, ⟨tb, rfl⟩, rfl⟩
  · rintro n m₁ news₁ h tk ⟨done, d, rest, o, _, _, hd, rfl, rfl, hio2, ⟨tv, rfl⟩, ⟨tb2, rfl⟩, rfl⟩ F9 N9
    have hd64 : d < 64 := hdig d (by rw [hd]; simp)
    have hlen2 : (done ++ [d]).length ≤ 30 := by
      have := congrArg List.length hd
      simp only [List.length_cons, List.length_append, List.length_nil] at this hlen ⊢
      omega
    have hin : ∀ e ∈ done ++ [d], e < 64 := fun e he => hdig e (by rw [hd]; simp at he ⊢; rcases he with he | he; exact .inl he; exact .inr (.inl he))
    walk_at "MINE to inplace"
    · (rename Builtin.bitAnd _ _ ≠ 0 => hb1)
      have hr := (and64_head rest hd64).mp hb1
      refine ilshift_int (by decide) (valF_bits hin hlen2) ?_
      dsimp only
      walk_at "MINE to builtin"
      obtain ⟨d', r', rfl⟩ : ∃ d' r', rest = d' :: r' := by
        cases rest with
        | nil => exact absurd rfl hr
        | cons e r => exact ⟨e, r, rfl⟩
      have hd64' : d' < 64 := hdig d' (by rw [hd]; simp)
      have ei := encF_at (done ++ [d]) d' r'
      rw [List.append_assoc, List.singleton_append, ← hd] at ei
      obtain ⟨tb3, hb3⟩ := hvs.get _ _ (hns _ _ ei)
      (rename News _ _ _ _ => N8)
      refine next_list (items := vs.toArray) (x := .int (headO d' r' : Nat) tb3) (by k_asm) N8 (UpdF.other U o) hio2 ⟨ol, (N8 _ (hl o)).1, hcl, nl, hdat⟩ (by rw [List.length_append, List.length_singleton, ← Nat.add_assoc] at hb3; simpa using hb3) ?_
      intro h2 o2 F2 N2 hio3
      dsimp only
      k_steps
      have eV : Builtin.bitOr (((valF (done ++ [d]) : Nat) : Int) * 2 ^ (6 : Int).toNat) (Builtin.bitAnd ((headO d' r' : Nat) : Int) 63) = ((valF ((done ++ [d]) ++ [d']) : Nat) : Int) := by
        rw [and63_head r' hd64', show (6 : Int).toNat = 6 from rfl, or_shift hd64', valF_snoc (done ++ [d])]
      exact WhileEnd.next (by assumption) (by assumption) (Nat.lt_succ_self r'.length) ⟨done ++ [d], d', r', o2, _, _, by rw [hd, List.append_assoc]; rfl, rfl, rfl, by rw [List.length_append, List.length_singleton]; exact hio3, ⟨_, congrArg (Value.int · _) eV⟩, ⟨tb3, rfl⟩, updVB⟩
    · (rename Builtin.bitAnd _ _ = 0 => hb1)
      have hr : rest = [] := Decidable.byContradiction fun e => ((and64_head rest hd64).mpr e) hb1
      subst hr
      k_steps
      exact hret _ _ _ _ (by assumption) (by assumption) ⟨_, o, by rw [hd], rfl, by rw [hd, List.length_append, List.length_singleton, ← Nat.add_assoc]; exact hio2⟩

theorem at_CReplace : True := by
  w_top off
  exact trivial
theorem bind_replace (w : World) (x : Str) (t : Tok) (v : Value) (vs : List Value) (fd : FuncData) (o : Obj) (hl : (hd.heap_39 w.params).lookup 36 = some o) (ho : o.data = .func fd) :
    bindArgs fd ⟨.str x t :: v :: vs, []⟩ = (newTuple (v :: vs) >>= fun tup => pure [(Str.ofString "text", Value.str x t), (Str.ofString "pairs", tup)]) := by
  have hl' : (hd.heap_39 w.params).lookup 36 = some _ := rfl
  rw [hl'] at hl
  cases hl
  cases ho
  with_unfolding_all rfl
theorem newTuple_eq {ws : List Value} (h : ws.length ≤ sizeLine) : newTuple ws = (alloc ({ cls := .type "tuple", data := .seq ws.toArray } : Obj) >>= fun a => pure (.ref a)) := by
  unfold newTuple newObj
  have : ¬ ws.toArray.size > sizeLine := by rw [List.size_toArray]; omega
  simp only [if_neg this]
  rfl
theorem peek_replace {w : World} {x : Str} {t : Tok} {v : Value} {vs : List Value} {fd : FuncData} {o : Obj} (hlen : (v :: vs).length ≤ sizeLine) (hl : (hd.heap_39 w.params).lookup 36 = some o) (ho : o.data = .func fd) :
    peek1 (hd.heap_39 w.params) ⟨Challenge.rw_ph0017_01.row.prog, w.params⟩ (bindArgs fd ⟨.str x t :: v :: vs, []⟩) = some (({ cls := .type "tuple", data := .seq (v :: vs).toArray } : Obj), fun D => some [(Str.ofString "text", Value.str x t), (Str.ofString "pairs", .ref D)]) := by
  rw [bind_replace w x t v vs fd o hl ho, newTuple_eq hlen]
  rfl
def replT : Str → List Str → Str
  | x, a :: b :: r => replT (Txt.join b (Txt.split x a)) r
  | x, _ => x
def ReplOk : Str → List Str → Prop
  | x, a :: b :: r => x.length ≤ 2000 ∧ 1 ≤ a.length ∧ b.length ≤ 10 ∧ ReplOk (Txt.join b (Txt.split x a)) r
  | _, [] => True
  | _, [_] => False
theorem updPT {p q : Str} (h : q ≠ p) {a a' b b' : Value} {m₀ : Str → Option Value} :
    (fun y => if y = p then some a' else if y = q then some b' else if y = p then some a else if y = q then some b else m₀ y) = fun z => if z = p then some a' else if z = q then some b' else m₀ z := by
  funext z
  by_cases h1 : z = p
  · simp [h1]
  · by_cases h2 : z = q
    · subst h2; simp [h1]
    · simp [h1, h2]
theorem con_replace (w : World) (mean mg mb) (x : Str) (t : Tok) (v : Value) (vs : List Value) (ss : List Str) (news : Led) (hvs : StrsAre (v :: vs) ss) (hlen : ss.length ≤ 100) (hok : ReplOk x ss) :
    Con w mean mg mb 36 (.str x t :: v :: vs) news 1 (fun r news' => ∃ t', r = .str (replT x ss) t' ∧ news' = news) := by
  unfold Con; k_fill
  intro dp un gd cn cs a ccd cl outer A₀ base h₀ L m s Q E B F X N T hk hdp hun hret
  refine wpAny_call ?_
  have hlen' : (v :: vs).length ≤ sizeLine := by rw [hvs.length, sizeLine_eq]; omega
  k_dflt (refine' kp_rest ?k1 ?k2 ?k3 ?k4 ?k5 ?kA ?kF ?kK ?k6 ?k7 ?k8 ?kV ?kP ?kG ?kB ?_ ?c2 ?c3 ?c4 ?c5; (case kA => exact rfl); (case kF => exact rfl); (case kK => assumption); (case k1 => k_asm); (case k2 => k_asm); (case k3 => k_asm); (case k4 => k_asm); (case k5 => k_asm); (case k6 => k_is); (case k7 => k_is); (case k8 => ktr_room); (case kV => exact rfl); (case kP => exact peek_replace hlen' rfl rfl); (case kG => exact fun _ => rfl); (case kB => exact fun _ => locs rfl); (case c5 => decide); (case c2 => exact rfl); (case c3 => exact rfl); (case c4 => exact rfl); k_whole; intro D' g' L' h' l1 FG' F' N' B' X' T'; (try dsimp only); (try k_lift B'); (try k_fold))
  (rename Fr _ _ _ _ => F0)
  replace F0 := Fr.conv F0 (lk2 (Str.ofString "pairs") (Str.ofString "text") (.ref D') (.str x t))
  walk_at "MINE to while"
  k_dflt (refine while_K (by k_asm) (by k_asm) (fun n m nw => ∃ (D : Addr) (vr : List Value) (sr : List Str) (xt : Str) (tx : Tok), n = sr.length ∧ nw = (D, ({ cls := .type "tuple", data := .seq vr.toArray } : Obj)) :: news ∧ StrsAre vr sr ∧ sr.length ≤ 100 ∧ replT xt sr = replT x ss ∧ ReplOk xt sr ∧
    m = fun z => if z = Str.ofString "pairs" then some (.ref D) else if z = Str.ofString "text" then some (.str xt tx) else none) ss.length ?_ ?_)
  · exact ⟨D', v :: vs, ss, x, t, rfl, rfl, hvs, hlen, rfl, hok, rfl⟩
  · rintro n m₁ news₁ h tk ⟨D, vr, sr, xt, tx, rfl, rfl, hvr, hsr, hre, hok2, rfl⟩ F9 N9
    cases hvr with
    | nil =>
      k_steps
      exact hret _ _ _ _ (by assumption) (cb_drop (by assumption) (fun p hp => List.mem_cons_of_mem _ hp)) ⟨tx, by rw [← hre]; rfl, rfl⟩
    | cons a9 ta hvr =>
      cases hvr with
      | nil => exact hok2.elim
      | cons b9 tb hvr =>
        rename_i vr sr
        obtain ⟨hx9, ha9, hb9, hok3⟩ := hok2
        have hl9 := hvr.length
        have hlen9 : vr.length ≤ 100 := by rw [hl9]; simp only [List.length_cons] at hsr; omega
        walk_at "MINE to truthy"
        refine truthy_tuple (News.isTup N9 List.mem_cons_self) (by simp only [List.size_toArray, List.length_cons]; omega) ?_
        refine ite_pos (by rfl) ?_
        dsimp only
        walk_at "MINE to sub"
        refine item_tupleT (j := 1) (News.isTup N9 List.mem_cons_self) (by decide) (by decide) (seqIndex_of (by decide) (by simp only [List.length_cons]; omega)) rfl ?_
        dsimp only
        walk_at "MINE to sub"
        refine item_tupleT (j := 0) (News.isTup N9 List.mem_cons_self) (by decide) (by decide) (seqIndex_of (by decide) (by simp only [List.length_cons]; omega)) rfl ?_
        dsimp only
        walk_at "MINE to builtin"
        refine KSpl.split1 (by k_asm) (by k_asm) (by simp; omega) ?_ (by rw [sizeLine_eq]; omega)
        intro Ds ls hs ks es as Fs Ns lts
        dsimp only
        walk_at "MINE to builtin"
        refine join_list (ys := Txt.split xt a9) (News.isList Ns List.mem_cons_self) (by rw [← es]; simpa using as) ?_ (fun tj kj => ?_)
        · have hw := split_weight xt a9 ha9
          have hm : (Txt.split xt a9).length * b9.length ≤ 2001 * 10 := Nat.mul_le_mul (by omega) hb9
          omega
        dsimp only
        walk_at "MINE to sub"
        (rename Fr _ _ _ _ => F8)
        (rename News _ _ _ _ => N8)
        refine slice_tuple_from (s := ⟨_, _, _, _, _⟩) (a := 2) F8 N8 (News.isTup N8 (List.mem_cons_of_mem _ List.mem_cons_self)) (by decide) (by simp only [List.size_toArray, List.length_cons]; omega) ?_ (hsz := by simp only [List.size_toArray, List.length_cons]; rw [sizeLine_eq]; omega)
        intro hS FS NS
        dsimp only
        k_steps
        exact WhileEnd.next (by assumption) (cb_drop (by assumption) (fun p hp => by rcases List.mem_cons.mp hp with rfl | hp; exact List.mem_cons_self; exact List.mem_cons_of_mem _ (List.mem_cons_of_mem _ (List.mem_cons_of_mem _ hp)))) (by simp only [List.length_cons]; omega) ⟨_, vr, sr, _, _, rfl, rfl, hvr, by simp only [List.length_cons] at hsr; omega, hre, hok3, updPT (by decide)⟩

theorem at_CompCell : True := by
  w_top off
  exact trivial
section
variable {prog : Program} {w : World} {A : Around} {E : Value → Shared → Prop} {s : Shared} {h₀ : Heap} {L : Addr} {m : Str → Option Value} {env : Env}
def CellTurn (prog : Program) (w : World) (A : Around) (h₀ : Heap) (L : Addr) (m : Str → Option Value) (env : Env) (elt : Expr) (x : Str) (scope : Scope) (cl : List (Str × Addr)) (s₁ : Shared) (news : List (Addr × Obj)) (a : Int) (n : Nat) {β : Type} (R : β → Value → Prop) (f : Nat → β) : Prop :=
  ∀ (i : Nat) (t : Tok) (I : Addr) (oI : Obj) (C : Addr) (oC : Obj) (Ce : Addr) (oK : Obj) (D : Addr) (ys : List Value) (h : Heap) (tk : Nat) (E' : Value → Shared → Prop), i < n → oK.data = .cell (some (.int (a + (i : Int)) t)) →
    Fr h₀ L h m → News h₀ L h ((I, oI) :: (C, oC) :: (Ce, oK) :: (D, lst ys) :: news) →
    wpAny (model prog w) A (eval elt (compEnvC scope ((x, Ce) :: cl) C env)) (EltK { s₁ with heap := h, toks := tk } h₀ L m ((I, oI) :: (C, oC) :: (Ce, oK) :: (D, lst ys) :: news) (R (f i))) E' { s₁ with heap := h, toks := tk }
def CellSrc (prog : Program) (w : World) (A : Around) (h₀ : Heap) (L : Addr) (m : Str → Option Value) (env : Env) (elt : Expr) (x : Str) (scope : Scope) (cl : List (Str × Addr)) {β : Type} (R : β → Value → Prop) (f : Nat → β) (Q : Value → Shared → Prop) (xv : Value) (s₁ : Shared) : Prop :=
  ∃ (r : Addr) (a b : Int) (t u v : Tok) (n : Nat) (news : List (Addr × Obj)), xv = .ref r ∧ A.handled = none ∧ Fr h₀ L s₁.heap m ∧ News h₀ L s₁.heap news ∧ IsRange s₁.heap r a b 1 t u v ∧ Builtin.Range.small a b 1 = true ∧ Builtin.Range.rangeSize a b 1 = ((n : Nat) : Int) ∧ n ≤ sizeLine ∧
    CellTurn prog w A h₀ L m env elt x scope cl s₁ news a n R f ∧
    (∀ D ys h tk, Paired R ((List.range n).map f) ys → Fr h₀ L h m → News h₀ L h ((D, lst ys) :: news) → (∀ p ∈ news, p.1 < D) → Q (.ref D) { s₁ with heap := h, toks := tk })
theorem ListComp_cell {elt iter : Expr} {x : Str} {px : Pos} {scope : Scope} {cl : List (Str × Addr)} {pos : Pos} {Q : Value → Shared → Prop} {β : Type} (R : β → Value → Prop) (f : Nat → β) (_F₀ : Fr h₀ L s.heap m)
    (hclos : closureFor scope env = pure cl) (hkind : scope.kind = .function) (hnames : ∀ y ∈ scope.names, y.2 = .local → scope.names.lookup y.1 = some .local)
    (hnew : newFunctionEnv scope env.globals cl [] env.qual none .none (some env) = (alloc ({ cls := .type "dict", data := .dict #[] } : Obj) >>= fun C => alloc ({ cls := .type "cell", data := .cell none } : Obj) >>= fun Ce =>
      pure { scope := scope, locals := C, globals := env.globals, cells := (x, Ce) :: cl, qual := env.qual, func := none, code := env.code, frame := env.frame, builtins := env.builtins }))
    (hx : ∀ C Ce, (compEnvC scope ((x, Ce) :: cl) C env).kindOf x = some .cell)
    (h : wpAny (model prog w) A (eval iter env) (CellSrc prog w A h₀ L m env elt x scope cl R f Q) E s)
    (hs : ∀ x, foldedSetIterable iter env x = pure x := by intro _; rfl) :
    wpAny (model prog w) A (eval (.ListComp elt [⟨.Name x px, iter, [], 0⟩] scope pos) env) Q E s := by
  rw [eval_ListComp]
  refine wpAny_comprehension_free (use := none) rfl hs hclos hkind hnames (wpAny_mono h (fun xv s₁ h₁ => ?_) fun _ _ e => e)
  obtain ⟨r, a, b, t, u, v, n, news, rfl, hh, F, N, hr, hsm, hn, hsz, turn, fin⟩ := h₁
  refine wpAny_pyIter_range hr hsm ?_
  -- the four new objects: the iterator I, the list D, the names C, the cell Ce
  refine wpAny_newObj_type ?_
  rw [hnew]
  refine wpAny_bind (wpAny_alloc (wpAny_bind (wpAny_alloc (wpAny_pure ?_))))
  dsimp only
  generalize hH0 : s₁.heap.push _ = H0
  have hst0 : IsRangeIter H0 s₁.heap.objs.size (a + (0 : Nat) * 1) ((n : Int) - (0 : Nat)) 1 := by
    rw [← hH0]; show IsRangeIter _ _ _ _ _; rw [hn]; simpa using Heap.get?_push_size _ rfl
  have F0 : Fr h₀ L H0 m := hH0 ▸ F.push _
  have N0 : News h₀ L H0 news := hH0 ▸ N.grown fun _ _ e => Heap.get?_push_of_some _ e
  have e0 : H0.objs.size = s₁.heap.objs.size + 1 := by rw [← hH0, Heap.size_push]
  have hI0 : h₀.get? s₁.heap.objs.size = none := next_is_new F
  generalize hIe : s₁.heap.objs.size = I at *
  generalize hH1 : H0.push _ = H1
  have F1 : Fr h₀ L H1 m := hH1 ▸ F0.push _
  have N1 : News h₀ L H1 ((H0.objs.size, lst []) :: news) := hH1 ▸ N0.push F0 _
  have e1 : H1.objs.size = I + 2 := by rw [← hH1, Heap.size_push, e0]
  have k1 : ∀ b o, H0.get? b = some o → H1.get? b = some o := fun b o e => hH1 ▸ Heap.get?_push_of_some _ e
  generalize hH2 : H1.push _ = H2
  have F2 : Fr h₀ L H2 m := hH2 ▸ F1.push _
  have hCo : H2.get? H1.objs.size = some ({ cls := .type "dict", data := .dict #[] } : Obj) := hH2 ▸ Heap.get?_push_size _ rfl
  have N2 : News h₀ L H2 ((H1.objs.size, ({ cls := .type "dict", data := .dict #[] } : Obj)) :: (H0.objs.size, lst []) :: news) := hH2 ▸ N1.push F1 _
  have e2 : H2.objs.size = I + 3 := by rw [← hH2, Heap.size_push, e1]
  have k2 : ∀ b o, H1.get? b = some o → H2.get? b = some o := fun b o e => hH2 ▸ Heap.get?_push_of_some _ e
  generalize hH3 : H2.push _ = H3
  have F3 : Fr h₀ L H3 m := hH3 ▸ F2.push _
  have N3 : News h₀ L H3 ((H2.objs.size, ({ cls := .type "cell", data := .cell none } : Obj)) :: (H1.objs.size, ({ cls := .type "dict", data := .dict #[] } : Obj)) :: (H0.objs.size, lst []) :: news) := hH3 ▸ N2.push F2 _
  have k3 : ∀ b o, H2.get? b = some o → H3.get? b = some o := fun b o e => hH3 ▸ Heap.get?_push_of_some _ e
  have hL : @LT.lt Nat _ L I := hIe ▸ F.ns.lt
  have hlt : ∀ p ∈ news, @LT.lt Nat _ p.1 I := fun p hp => hIe ▸ Heap.lt_size (N p hp).1
  rw [e0] at *
  rw [e1] at *
  rw [e2] at *
  have W := range_walks (prog := prog) (w := w) (A := A) (I := I) hh a n
  have st3 : IsRangeIter H3 I (a + (0 : Nat) * 1) ((n : Int) - (0 : Nat)) 1 := k3 _ _ (k2 _ _ (k1 _ _ hst0))
  have loop : codeAny (model prog w) A (.compLoop (.ListComp elt [⟨.Name x px, iter, [], 0⟩] scope pos) 0 (.ref I) (.ref (I + 1)) (compEnvC scope ((x, I + 3) :: cl) (I + 2) env))
      (compPost (model prog w) A E none Q (.ref (I + 1)) (I + 2)) { s₁ with heap := H3 } := by
    refine codeAny_compLoop_tests
      (fun k s' => ∃ h' tk i ys ov, s' = { s₁ with heap := h', toks := tk } ∧ i ≤ n ∧ k = n + 1 - i ∧ ys.length = i ∧ IsRangeIter h' I (a + (i : Nat) * 1) ((n : Int) - (i : Nat)) 1 ∧ Fr h₀ L h' m ∧
        News h₀ L h' ((I + 2, ({ cls := .type "dict", data := .dict #[] } : Obj)) :: (I + 1, lst ys) :: news) ∧ h'.IsCell (I + 3) ov ∧ h₀.get? (I + 3) = none ∧ Paired R ((List.range i).map f) ys) ?_ (n + 1)
      ⟨H3, s₁.toks, 0, [], none, rfl, Nat.zero_le _, rfl, rfl, st3, F3, fun p hp => N3 p (List.mem_cons_of_mem _ hp), ⟨_, (N3 _ List.mem_cons_self).1, rfl⟩, (N3 _ List.mem_cons_self).2.2, .nil⟩
    rintro k s' ⟨h', tk, i, ys, ov, rfl, hi, rfl, hyl, st', F', N', hcell, hc0, hp⟩
    by_cases hin : i < n
    · refine W.item i _ _ _ hin st' fun v h₂ tk₂ hPv st₂ hk₂ => ?_
      obtain ⟨t', rfl⟩ := hPv
      have F₂ := fr_but F' hk₂ (Nat.ne_of_lt hL) hI0
      have N₂ := news_but N' hk₂ (fun p hp => by
        rcases List.mem_cons.mp hp with rfl | hp
        · exact Nat.ne_of_gt (by show I < I + 2; omega)
        · rcases List.mem_cons.mp hp with rfl | hp
          · exact Nat.ne_of_gt (by show I < I + 1; omega)
          · exact Nat.ne_of_lt (hlt p hp))
      have hcell₂ : h₂.IsCell (I + 3) ov := by
        obtain ⟨o, e, q⟩ := hcell
        exact ⟨o, hk₂ _ _ (by simp) e, q⟩
      refine wpAny_assign_Name (wpAny_storeName_cell hkind (hx _ _) (by simp [compEnvC, List.lookup]) hcell₂ (fun h₃ hc₃ hs₃ => ?_))
      refine wpAny_tests_nil ?_
      simp only [if_true]
      have st₃ : IsRangeIter h₃ I (a + ((i + 1 : Nat) : Nat) * 1) ((n : Int) - ((i + 1 : Nat) : Nat)) 1 := hs₃.extBut _ _ (by show I ≠ I + 3; omega) st₂
      obtain ⟨oK, heK, hdK⟩ := hc₃
      have F₃ : Fr h₀ L h₃ m := F₂.change hs₃ (by show @Ne Nat (I + 3) L; omega) hc0
      have N₃ : News h₀ L h₃ ((I, _) :: (I + 2, ({ cls := .type "dict", data := .dict #[] } : Obj)) :: (I + 3, oK) :: (I + 1, lst ys) :: news) := fun p hp => by
        rcases List.mem_cons.mp hp with rfl | hp
        · exact ⟨st₃, by show @Ne Nat I L; omega, hI0⟩
        · rcases List.mem_cons.mp hp with rfl | hp
          · have z := N₂ _ List.mem_cons_self
            exact ⟨hs₃.extBut _ _ (by show I + 2 ≠ I + 3; omega) z.1, z.2⟩
          · rcases List.mem_cons.mp hp with rfl | hp
            · exact ⟨heK, by show @Ne Nat (I + 3) L; omega, hc0⟩
            · have z := N₂ p (List.mem_cons_of_mem _ hp)
              refine ⟨hs₃.extBut _ _ ?_ z.1, z.2⟩
              rcases List.mem_cons.mp hp with rfl | hp
              · show I + 1 ≠ I + 3; omega
              · have := hlt p hp; show @Ne Nat p.1 (I + 3); omega
      refine wpAny_mono (turn i t' I _ (I + 2) _ (I + 3) oK (I + 1) ys h₃ _ _ hin hdK F₃ N₃) (fun y s₄ h₄ => ?_) fun _ _ e => e
      obtain ⟨h₄, tk₄, rfl, F₄, N₄, hy⟩ := h₄
      have zD := (N₄ (I + 1, lst ys) (List.mem_cons_of_mem _ (List.mem_cons_of_mem _ (List.mem_cons_of_mem _ List.mem_cons_self))))
      refine append_at (hsz := by show ys.toArray.size ≤ sizeLine; rw [List.size_toArray, hyl]; exact Nat.le_trans hi hsz) zD.1 fun h₅ hs₅ hD₅ => ?_
      refine ⟨n + 1 - (i + 1), by omega, h₅, tk₄, i + 1, ys ++ [y], _, rfl, hin, rfl, by rw [List.length_append, List.length_singleton, hyl], ?_, F₄.change hs₅ zD.2.1 zD.2.2, ?_, ⟨oK, hs₅.extBut _ _ (by show I + 3 ≠ I + 1; omega) (N₄ (I + 3, oK) (List.mem_cons_of_mem _ (List.mem_cons_of_mem _ List.mem_cons_self))).1, hdK⟩, hc0, ?_⟩
      · exact hs₅.extBut _ _ (by show I ≠ I + 1; omega) (N₄ _ List.mem_cons_self).1
      · intro p hp
        rcases List.mem_cons.mp hp with rfl | hp
        · have z := N₄ _ (List.mem_cons_of_mem _ List.mem_cons_self)
          exact ⟨hs₅.extBut _ _ (by show I + 2 ≠ I + 1; omega) z.1, z.2⟩
        · rcases List.mem_cons.mp hp with rfl | hp
          · exact ⟨hD₅.trans (congrArg some (lst_snoc ys y)), zD.2⟩
          · have z := N₄ p (List.mem_cons_of_mem _ (List.mem_cons_of_mem _ (List.mem_cons_of_mem _ (List.mem_cons_of_mem _ hp))))
            have := hlt p hp
            exact ⟨hs₅.extBut _ _ (by show @Ne Nat p.1 (I + 1); omega) z.1, z.2⟩
      · rw [List.range_succ, List.map_append]; exact Paired.snoc hp hy
    · obtain rfl : i = n := by omega
      refine W.done _ _ _ st' fun h₂ tk₂ hk₂ => ?_
      have F₂ := fr_but F' hk₂ (Nat.ne_of_lt hL) hI0
      have N₂ := news_but N' hk₂ (fun p hp => by
        rcases List.mem_cons.mp hp with rfl | hp
        · exact Nat.ne_of_gt (by show I < I + 2; omega)
        · rcases List.mem_cons.mp hp with rfl | hp
          · exact Nat.ne_of_gt (by show I < I + 1; omega)
          · exact Nat.ne_of_lt (hlt p hp))
      have zC := N₂ _ List.mem_cons_self
      refine ⟨fun _ => none, ⟨_, #[], 0, zC.1, rfl, ?_, fun _ => rfl⟩, fun h₃ hs₃ => ?_⟩
      · intro e he; simp at he
      · refine fin (I + 1) ys h₃ tk₂ hp (F₂.change hs₃ zC.2.1 zC.2.2) (fun p hp => ?_) (fun p hp => Nat.lt_succ_of_lt (hlt p hp))
        have z := N₂ p (List.mem_cons_of_mem _ hp)
        refine ⟨hs₃.extBut _ _ ?_ z.1, z.2⟩
        rcases List.mem_cons.mp hp with rfl | hp
        · show I + 1 ≠ I + 2; omega
        · have := hlt p hp; show @Ne Nat p.1 (I + 2); omega
  exact codeAny_compStart_list loop (W.self 0 _ _ _ st3 loop)
end

theorem at_CWays : True := by
  w_top off
  exact trivial
def wayAt (ns : List Int) (pl : List Nat) (k : Nat) : Int := ((pl.filter (fun p => decide (p ≤ k))).map (fun p => ns.getD (k - p) 0)).sum
def waysF (ns : List Int) (pl : List Nat) : List Int := (List.range 25).map (wayAt ns pl)
theorem range_getD (pl : List Nat) : (List.range pl.length).map (fun j => pl.getD j 0) = pl := by
  apply List.ext_getElem?
  intro i
  rw [List.getElem?_map]
  by_cases h : i < pl.length
  · rw [List.getElem?_range h, List.getElem?_eq_getElem h, Option.map_some, List.getD_eq_getElem?_getD, List.getElem?_eq_getElem h]; rfl
  · rw [List.getElem?_eq_none (by simpa using h), List.getElem?_eq_none (by omega)]; rfl
theorem way_sum (ns : List Int) (pl : List Nat) (i n : Nat) (hn : n = pl.length) : (((List.range n).filter (fun j => decide (pl.getD j 0 ≤ i))).map (fun j => ns.getD (i - (pl.getD j 0)) 0)).sum = wayAt ns pl i := by
  subst hn
  unfold wayAt
  conv => rhs; rw [← range_getD pl]
  rw [List.filter_map, List.map_map]
  rfl
theorem con_ways (w : World) (mean mg mb) (lw lp : Addr) (ow : Obj) (vs pvs : List Value) (nw : Nat) (ns : List Int) (pl : List Nat) (news : Led)
    (hmem : (lw, ow) ∈ news) (hcl : ow.cls = .type "list") (hdat : ow.data = .seq vs.toArray nw) (hvs : IntsAre vs ns) (hns : ns.length = 25)
    (hpm : (lp, lst pvs) ∈ news) (hpv : IntsAre pvs (pl.map (fun (k : Nat) => (k : Int)))) (hpl : ∀ p ∈ pl, p < 9) (hpn : pl.length ≤ 9) :
    Con w mean mg mb 60 [.ref lw, .ref lp] news 1 (fun v news' => ∃ l ys, v = .ref l ∧ news' = (l, lst ys) :: news ∧ (∀ p ∈ news, p.1 < l) ∧ IntsAre ys (waysF ns pl)) := by
  unfold Con; k_fill
  intro dp un gd cn cs a ccd cl outer A₀ base h₀ L m s Q E B F X N T hk hdp hun hret
  refine wpAny_call ?_
  walk_at "MINE enterC"
  walk_at "MINE to comp"
  k_dflt (refine ListComp_cell IsI (wayAt ns pl) (by k_asm) (by with_unfolding_all rfl) (by rfl) (by decide) (by with_unfolding_all rfl) (by intros; rfl) ?_)
  iterate 7 (first | walk1 | (dsimp only; walk1))
  rename_i g1 L1 hA tkA FG1 FA B1 X1 T1 l1 oP oW dP dW NA hR tkR t1 u1 v1 IR FR NR KR
  refine ⟨_, 0, 25, t1, u1, v1, 25, _, rfl, rfl, FR, NR, IR, by decide, by rfl, by rw [sizeLine_eq]; decide, ?_, ?_⟩
  · intro i t I oI C oC Ce oK D ys h tk E' hi hK F9 N9
    walk_at "MINE to comp"
    k_dflt (refine LCt.ListComp_T (F₀ := by k_asm) (by with_unfolding_all rfl) (by decide) (by rfl) (by decide) (by rfl) ?_)
    walk_at "MINE to src"
    have hmemP : (lp, lst pvs) ∈ (I, oI) :: (C, oC) :: (Ce, oK) :: (D, lst ys) :: (L1 + 1 + 1, oP) :: (L1 + 1, oW) :: news := by
      iterate 6 (refine List.mem_cons_of_mem _ ?_)
      exact hpm
    have hpl2 : pvs.length = pl.length := by simpa using hpv.length
    refine LCt.CompSrcT.ledger (by rfl) (by k_asm) (by k_asm) (ax := lp) (its := pvs.toArray) (k := pvs.length) hmemP (by rw [List.size_toArray, sizeLine_eq]; omega) ?_
    intro g9
    refine rest_T IsI (fun j => ns.getD (i - (pl.getD j 0)) 0) (fun j => decide (pl.getD j 0 ≤ i)) _ (Or.inr ⟨_, hmemP, rfl, _, rfl⟩) ?_ ?_
    · intro j v I2 oI2 C2 oC2 D2 ys2 m₂ h2 tk2 E2 hj hv hC2 hx2 F2 N2 off2 ne2
      obtain ⟨n9, t9, rfl, hn9⟩ := hpv.at j v (by simpa using hv)
      have hjl : j < pl.length := by rw [List.size_toArray] at hj; omega
      have en : n9 = ((pl.getD j 0 : Nat) : Int) := by
        rw [List.getElem?_map, List.getElem?_eq_getElem hjl] at hn9
        rw [List.getD_eq_getElem?_getD, List.getElem?_eq_getElem hjl]
        exact (Option.some.inj hn9).symm
      subst en
      have hp9 : pl.getD j 0 < 9 := by
        rw [List.getD_eq_getElem?_getD, List.getElem?_eq_getElem hjl]
        exact hpl _ (List.getElem_mem hjl)
      generalize pl.getD j 0 = p at *
      k_steps
      · rw [Int.zero_add]; exact decide_eq_decide.mpr Int.ofNat_le
      · (rename (_ : Int) ≤ _ => hle)
        have hw2 : (lw, ow) ∈ (I2, oI2) :: (C2, oC2) :: (D2, lst ys2) :: (I, oI) :: (C, oC) :: (Ce, oK) :: (D, lst ys) :: (L1 + 1 + 1, oP) :: (L1 + 1, oW) :: news := by
          iterate 9 (refine List.mem_cons_of_mem _ ?_)
          exact hmem
        have ei : (0 + (i : Int) - (p : Int)).toNat = i - p := by omega
        have hil : i - p < ns.length := by omega
        obtain ⟨t8, h8⟩ := hvs.get (i - p) (ns.getD (i - p) 0) (by rw [List.getD_eq_getElem?_getD, List.getElem?_eq_getElem hil]; rfl)
        refine item_litK (vs := vs) (v := .int (ns.getD (i - p) 0) t8) ⟨ow, (N2 _ hw2).1, hcl, nw, hdat⟩ (by omega) (by omega) (by rw [ei]; exact h8) ?_
        exact EltK.intro (by assumption) (by assumption) (fun p hp => hp) ⟨t8, rfl⟩
      · exact EltK.intro (by assumption) (by assumption) (fun p hp => hp) trivial
    · intro ys2 hys2 D2 h2 tk2 FD ND O9
      dsimp only
      walk_at "MINE to builtin"
      refine LSm.sum_ints FD ND rfl (News.isList ND List.mem_cons_self) (ints_of_paired hys2) ?_
      intro h3 tk3 t3 F3 N3
      exact EltK.intro F3 N3 (fun p hp => List.mem_cons_of_mem _ hp) ⟨t3, congrArg (Value.int · t3) (way_sum ns pl i _ (by rw [List.size_toArray]; exact hpl2))⟩
  · intro D ys h tk hys FD ND ltD
    dsimp only
    k_steps
    exact hret _ _ _ _ (by assumption) (cb_drop (by assumption) (fun p hp => by rcases List.mem_cons.mp hp with rfl | h; exact List.mem_cons_self; exact List.mem_cons_of_mem _ (List.mem_cons_of_mem _ (List.mem_cons_of_mem _ h)))) ⟨D, ys, rfl, rfl, fun p hp => ltD p (List.mem_cons_of_mem _ (List.mem_cons_of_mem _ hp)), ints_of_paired hys⟩

theorem at_CompStr : True := by
  w_top off
  exact trivial
section
variable {prog : Program} {w : World} {A : Around} {E : Value → Shared → Prop} {s : Shared} {h₀ : Heap} {L : Addr} {m : Str → Option Value} {env : Env}
/-- the source of a comprehension is a str of signs below 128 -/
def StrSrc (prog : Program) (w : World) (A : Around) (h₀ : Heap) (L : Addr) (m : Str → Option Value) (env : Env) (elt : Expr) (x : Str) (scope : Scope) (cl : List (Str × Addr)) (Q : Value → Shared → Prop) (xv : Value) (s₁ : Shared) : Prop :=
  ∃ y t news, xv = .str y t ∧ A.handled = none ∧ Fr h₀ L s₁.heap m ∧ News h₀ L s₁.heap news ∧ y.cps.all (· < 128) = true ∧ y.cps.size ≤ sizeLine ∧
    ∀ s₂ : Shared, (∃ h, s₂ = { s₁ with heap := h }) → CompRest prog w A h₀ L m env elt x scope cl s₂ (fun _ => True) (SignAt y) (LCg.FinE h₀ L m s₂ Q) y.cps.size 0 [] news
theorem StrSrc.intro {elt : Expr} {x : Str} {scope : Scope} {cl : List (Str × Addr)} {Q : Value → Shared → Prop} {y : Str} {t : Tok} {news : List (Addr × Obj)} {s₁ : Shared}
    (hh : A.handled = none) (F : Fr h₀ L s₁.heap m) (N : News h₀ L s₁.heap news) (hy : y.cps.all (· < 128) = true) (hsz : y.cps.size ≤ sizeLine)
    (h : ∀ g, CompRest prog w A h₀ L m env elt x scope cl { s₁ with heap := g } (fun _ => True) (SignAt y) (LCg.FinE h₀ L m { s₁ with heap := g } Q) y.cps.size 0 [] news) :
    StrSrc prog w A h₀ L m env elt x scope cl Q (.str y t) s₁ := ⟨y, t, news, rfl, hh, F, N, hy, hsz, fun _ ⟨g, e⟩ => e ▸ h g⟩
theorem ListComp_str {elt iter : Expr} {x : Str} {px : Pos} {scope : Scope} {cl : List (Str × Addr)} {pos : Pos} {Q : Value → Shared → Prop} (F₀ : Fr h₀ L s.heap m)
    (hclos : closureFor scope env = pure cl) (hcell : ∀ y ∈ scope.names, y.2 ≠ .cell) (hkind : scope.kind = .function)
    (hnames : ∀ y ∈ scope.names, y.2 = .local → scope.names.lookup y.1 = some .local) (hx : scope.names.lookup x = some .local)
    (h : wpAny (model prog w) A (eval iter env) (StrSrc prog w A h₀ L m env elt x scope cl Q) E s)
    (hs : ∀ x, foldedSetIterable iter env x = pure x := by intro _; rfl) :
    wpAny (model prog w) A (eval (.ListComp elt [⟨.Name x px, iter, [], 0⟩] scope pos) env) Q E s := by
  rw [eval_ListComp]
  refine wpAny_comprehension_free (use := none) rfl hs hclos hkind hnames (wpAny_mono h (fun xv s₁ h₁ => ?_) fun _ _ e => e)
  obtain ⟨y, t, news, rfl, hh, F, N, hy, hsz, R⟩ := h₁
  refine wpAny_pyIter_ascii hy ?_
  refine LCg.block_U (S := fun _ => True) (Walks.strAscii hh s₁.heap.objs.size y t) hsz (fun i h st => by obtain ⟨o, e, _⟩ := st; exact ⟨o, e⟩) ?_ hcell hkind hx ⟨_, Heap.get?_push_size _ rfl, rfl, rfl⟩ (fun b hb => ?_)
      (F.keeps fun _ _ e => Heap.get?_push_of_some _ e) (N.grown fun _ _ e => Heap.get?_push_of_some _ e) (Nat.ne_of_lt F.ns.lt) (next_is_new F) (fun p hp => Nat.ne_of_lt (Heap.lt_size (N p hp).1)) trivial (R _ ⟨_, rfl⟩) ?_
  · intro i h h' o nw st e e' _ _ _
    obtain ⟨o', q, r⟩ := st
    rw [e] at q; cases q
    exact ⟨o, e', r⟩
  · rw [List.mem_singleton.mp hb]
    show s₁.heap.objs.size < (s₁.heap.push _).objs.size
    rw [Heap.size_push]; exact Nat.lt_succ_self _
  · intro D C h tk m' ys news' F' N' o1 hn hC₀ hD₀ hCL hDL hCD offC fin
    refine ⟨m', hn, fun h'' hs'' => fin D h'' tk (F'.change hs'' hCL hC₀) (fun p hp => ?_) o1⟩
    refine ⟨hs''.extBut _ _ ?_ (N' p hp).1, (N' p hp).2⟩
    rcases List.mem_cons.mp hp with rfl | hp
    · exact Ne.symm hCD
    · exact offC p hp
end

theorem at_EnumTup : True := by
  w_top off
  exact trivial
section
variable {prog : Program} {w : World} {A : Around} {E : Value → Shared → Prop} {s : Shared}
theorem nextOf_tup_item {it l : Addr} {i : Nat} {items : Array Value} {x : Value} {Q : Value → Shared → Prop} (hit : s.heap.IsTupleIter it l i) (hl : s.heap.IsTuple l items) (hx : items[i]? = some x)
    (hQ : ∀ h', h'.IsTupleIter it l (i + 1) → Heap.SameBut it s.heap h' → Q x { s with heap := h' }) : wpAny (model prog w) A (Builtin.SmallTypes.nextOf (.ref it)) Q E s := by
  obtain ⟨o, ho, hc, hd⟩ := id hit
  obtain ⟨ol, hol, _, nl, hdl⟩ := hl
  unfold Builtin.SmallTypes.nextOf
  refine wpAny_bind (wpAny_callSpecial?_slot (name := Str.ofString "__next__") hit.typeIs PySem.F.slot_tuple_iterator_next
    (wpAny_call_entry PySem.F.slot_tuple_iterator_next hit.typeIs PySem.F.entry_tuple_iterator_next ?_ (PySem.F.args_tuple_iterator_next_1 _)))
  show wpAny _ _ (field (.ref it) 0 >>= _) _ _ s
  refine wpAny_bind (wpAny_field ho hd (x := .ref l) rfl ?_)
  show wpAny _ _ (if (Value.ref l == Value.none) = true then _ else _) _ _ s
  rw [if_neg (show ¬ ((Value.ref l == Value.none) = true) from Bool.false_ne_true)]
  show wpAny _ _ (field (.ref it) 1 >>= _) _ _ s
  refine wpAny_bind (wpAny_field ho hd (x := .int i 0) rfl ?_)
  show wpAny _ _ (seqItems? (.ref l) >>= _) _ _ s
  refine wpAny_bind (wpAny_seqItems hol hdl ?_)
  simp only [Int.toNat_natCast, hx]
  refine wpAny_bind (wpAny_setField ho hd (by simp) (wpAny_pure ⟨x, rfl, wpAny_pure (hQ _ ?_ (Heap.SameBut.update ..))⟩))
  exact ⟨_, Heap.get?_update_self _ ho (Obj.isFreed_of_fields (Obj.data_mapFields hd _)), (Obj.cls_mapFields ..).trans hc, by
    rw [Obj.data_mapFields hd]; simp [rawInt]⟩
theorem nextOf_tup_end {it l : Addr} {i : Nat} {items : Array Value} {Q : Value → Shared → Prop} (hh : A.handled = none) (hit : s.heap.IsTupleIter it l i) (hl : s.heap.IsTuple l items) (hx : items[i]? = none)
    (hE : ∀ h' e, Heap.ExtBut it s.heap h' → (∃ o, h'.get? e = some o ∧ o.cls = .type "StopIteration") → E (.ref e) { s with heap := h' }) : wpAny (model prog w) A (Builtin.SmallTypes.nextOf (.ref it)) Q E s := by
  obtain ⟨o, ho, hc, hd⟩ := id hit
  obtain ⟨ol, hol, _, nl, hdl⟩ := hl
  unfold Builtin.SmallTypes.nextOf
  refine wpAny_bind (wpAny_callSpecial?_slot (name := Str.ofString "__next__") hit.typeIs PySem.F.slot_tuple_iterator_next
    (wpAny_call_entry PySem.F.slot_tuple_iterator_next hit.typeIs PySem.F.entry_tuple_iterator_next ?_ (PySem.F.args_tuple_iterator_next_1 _)))
  show wpAny _ _ (field (.ref it) 0 >>= _) _ _ s
  refine wpAny_bind (wpAny_field ho hd (x := .ref l) rfl ?_)
  show wpAny _ _ (if (Value.ref l == Value.none) = true then _ else _) _ _ s
  rw [if_neg (show ¬ ((Value.ref l == Value.none) = true) from Bool.false_ne_true)]
  show wpAny _ _ (field (.ref it) 1 >>= _) _ _ s
  refine wpAny_bind (wpAny_field ho hd (x := .int i 0) rfl ?_)
  show wpAny _ _ (seqItems? (.ref l) >>= _) _ _ s
  refine wpAny_bind (wpAny_seqItems hol hdl ?_)
  simp only [Int.toNat_natCast, hx]
  refine wpAny_bind (wpAny_rule (wpAny_bind (wpAny_setField ho hd (by simp) ?_)))
  show wpAny _ _ (newExc (.type "StopIteration") [] >>= _) _ _ _
  refine wpAny_bind ?_
  simp only [newExc, newTuple]
  refine wpAny_bind (wpAny_newObj_type ?_ (by size_fits))
  refine wpAny_bind (m := firstArgMember _ _) (wpAny_of_eq (a := Value.none) (by first | rfl | (simp only [firstArgMember]; rfl)) ?_)
  refine wpAny_newObj_type ?_ (by size_fits)
  simp only [raiseNew]
  refine wpAny_bind (wpAny_handled ?_)
  first | rw [show A.in1.handled = none from hh] | rw [hh]
  refine wpAny_bind (wpAny_pure (wpAny_throw ?_))
  exact hE _ _ (((Heap.SameBut.update ..).extBut.push _).push _) ⟨_, Heap.get?_push_size _ rfl, rfl⟩
theorem enumT_item0 {e it l : Addr} {i : Nat} {items : Array Value} {x old : Value} {Q : Value → Shared → Prop}
    (he : IsEnum s.heap e it i old) (hit : s.heap.IsTupleIter it l i) (hl : s.heap.IsTuple l items) (hx : items[i]? = some x) (hne : e ≠ it)
    (hQ : ∀ h', IsEnumOut h' e it ((i : Int) + 1) x s.heap.objs.size → h'.IsTupleIter it l (i + 1) →
      h'.get? s.heap.objs.size = some { cls := .type "tuple", data := .seq #[.int i s.toks, x] } → h'.objs.size = s.heap.objs.size + 1 →
      (∀ b o, b ≠ e → b ≠ it → s.heap.get? b = some o → h'.get? b = some o) → Q (.ref s.heap.objs.size) { s with heap := h', toks := s.toks + 1 }) :
    wpAny (model prog w) A (Builtin.«enumerate.__next__» ⟨[.ref e], []⟩) (fun fin s' => ∃ v, fin = .done (.ret v) ∧ Q v s') E s := by
  obtain ⟨hp, g, d, tk, os⟩ := s
  show wpAny _ _ (field (.ref e) 2 >>= _) _ _ _
  refine wpAny_bind (wpAny_field he rfl (x := .ref it) rfl ?_)
  refine wpAny_bind (nextOf_tup_item hit hl hx fun h₁ hit₁ hs₁ => ?_)
  replace hs₁ : Heap.SameBut it hp h₁ := hs₁
  have he₁ : IsEnum h₁ e it i old := (hs₁.2 e hne).trans he
  show wpAny _ _ (field (.ref e) 3 >>= _) _ _ ⟨h₁, g, d, tk, os⟩
  refine wpAny_bind (wpAny_field he₁ rfl (x := rawInt i) rfl ?_)
  show wpAny _ _ (field (.ref e) 4 >>= _) _ _ ⟨h₁, g, d, tk, os⟩
  refine wpAny_bind (wpAny_field he₁ rfl (x := .none) rfl ?_)
  show wpAny _ _ (mkInt i >>= _) _ _ ⟨h₁, g, d, tk, os⟩
  refine wpAny_bind (wpAny_mkInt ?_)
  show wpAny _ _ (setField (.ref e) 3 (rawInt ((i : Int) + 1)) >>= _) _ _ ⟨h₁, g, d, tk + 1, os⟩
  refine wpAny_bind (wpAny_setField_rec he₁ (by simp) fun h₂ he₂ hs₂ => ?_)
  replace hs₂ : Heap.SameBut e h₁ h₂ := hs₂
  replace he₂ : IsEnum h₂ e it ((i : Int) + 1) old := he₂
  show wpAny _ _ (setField (.ref e) 4 .none >>= _) _ _ ⟨h₂, g, d, tk + 1, os⟩
  refine wpAny_bind (wpAny_setField_rec he₂ (by simp) fun h₃ he₃ hs₃ => ?_)
  replace hs₃ : Heap.SameBut e h₂ h₃ := hs₃
  replace he₃ : IsEnum h₃ e it ((i : Int) + 1) old := he₃
  show wpAny _ _ (newTuple [.int i tk, x] >>= _) _ _ ⟨h₃, g, d, tk + 1, os⟩
  refine wpAny_bind (wpAny_newTuple ?_)
  have he₄ : IsEnum (h₃.push { cls := .type "tuple", data := .seq #[.int i tk, x] }) e it ((i : Int) + 1) old := Heap.get?_push_of_some _ he₃
  generalize hh₄ : h₃.push { cls := .type "tuple", data := .seq #[.int i tk, x] } = h₄ at he₄
  have hsz : h₃.objs.size = hp.objs.size := by rw [hs₃.1, hs₂.1, hs₁.1]
  have hel : e < hp.objs.size := Heap.lt_size he
  have ht₄ : h₄.get? hp.objs.size = some { cls := .type "tuple", data := .seq #[.int i tk, x] } := by rw [← hh₄, ← hsz]; exact Heap.get?_push_size _ rfl
  have hz₄ : h₄.objs.size = hp.objs.size + 1 := by rw [← hh₄, Heap.size_push, hsz]
  have hk₄ : ∀ b o, b ≠ e → b ≠ it → hp.get? b = some o → h₄.get? b = some o := fun b o hbe hbi hb => by
    rw [← hh₄]; exact Heap.get?_push_of_some _ (hs₃.extBut b o hbe (hs₂.extBut b o hbe (hs₁.extBut b o hbi hb)))
  have hit₄ : h₄.IsTupleIter it l (i + 1) := by
    rw [← hh₄]; obtain ⟨o, ho, r⟩ := (hit₁.extBut hs₂.extBut (Ne.symm hne)).extBut hs₃.extBut (Ne.symm hne); exact ⟨o, Heap.get?_push_of_some _ ho, r⟩
  show wpAny _ _ (Builtin.SmallTypes.ownedTupleIsFree (.ref e) >>= _) _ _ ⟨h₄, g, d, tk + 1, os⟩
  rw [hsz]
  clear hh₄ he₃ hs₃ he₂ hs₂ he₁ hs₁ hit₁ hsz h₃ h₂ h₁
  refine wpAny_bind ?_
  · unfold Builtin.SmallTypes.ownedTupleIsFree
    refine wpAny_bind (wpAny_field he₄ rfl (x := .none) rfl (wpAny_pure ?_))
    simp only [if_true]
    refine wpAny_bind (wpAny_rule ?_)
    refine wpAny_bind (wpAny_field he₄ rfl (x := old) rfl ?_)
    refine wpAny_bind (wpAny_setField_rec he₄ (by simp) fun h₅ he₅ hs₅ => ?_)
    replace hs₅ : Heap.SameBut e h₄ h₅ := hs₅
    replace he₅ : IsEnum h₅ e it ((i : Int) + 1) x := he₅
    show wpAny _ _ (Builtin.SmallTypes.ownedTupleHandOut (.ref e) (.ref hp.objs.size) >>= _) _ _ ⟨h₅, g, d, tk + 1, os⟩
    refine wpAny_bind ?_
    · unfold Builtin.SmallTypes.ownedTupleHandOut
      refine wpAny_bind (wpAny_setField_rec he₅ (by simp) fun h₆ he₆ hs₆ => ?_)
      replace hs₆ : Heap.SameBut e h₅ h₆ := hs₆
      replace he₆ : IsEnumOut h₆ e it ((i : Int) + 1) x hp.objs.size := he₆
      refine wpAny_setField_rec he₆ (by simp) fun h₇ he₇ hs₇ => ?_
      replace hs₇ : Heap.SameBut e h₆ h₇ := hs₇
      replace he₇ : IsEnumOut h₇ e it ((i : Int) + 1) x hp.objs.size := he₇
      refine wpAny_bind (wpAny_letGo (wpAny_pure ⟨_, rfl, hQ h₇ he₇ ?_ ?_ ?_ ?_⟩))
      · exact ((hit₄.extBut hs₅.extBut (Ne.symm hne)).extBut hs₆.extBut (Ne.symm hne)).extBut hs₇.extBut (Ne.symm hne)
      · exact hs₇.extBut _ _ (Nat.ne_of_gt hel) (hs₆.extBut _ _ (Nat.ne_of_gt hel) (hs₅.extBut _ _ (Nat.ne_of_gt hel) ht₄))
      · rw [hs₇.1, hs₆.1, hs₅.1, hz₄]
      · exact fun b o hbe hbi hb => hs₇.extBut b o hbe (hs₆.extBut b o hbe (hs₅.extBut b o hbe (hk₄ b o hbe hbi hb)))
theorem enumT_item {e it l : Addr} {i : Nat} {items : Array Value} {x old : Value} {Q : Option Value → Shared → Prop}
    (he : IsEnum s.heap e it i old) (hit : s.heap.IsTupleIter it l i) (hl : s.heap.IsTuple l items) (hx : items[i]? = some x) (hne : e ≠ it)
    (hQ : ∀ h', IsEnumOut h' e it ((i : Int) + 1) x s.heap.objs.size → h'.IsTupleIter it l (i + 1) →
      h'.get? s.heap.objs.size = some { cls := .type "tuple", data := .seq #[.int i s.toks, x] } → h'.objs.size = s.heap.objs.size + 1 →
      (∀ b o, b ≠ e → b ≠ it → s.heap.get? b = some o → h'.get? b = some o) → Q (some (.ref s.heap.objs.size)) { s with heap := h', toks := s.toks + 1 }) :
    wpAny (model prog w) A (pyNext (.ref e)) Q E s := by
  have hT : s.TypeIs (.ref e) "enumerate" := ⟨_, he, rfl⟩
  unfold pyNext
  exact wpAny_bind (wpAny_attempt (wpAny_callSpecial?_slot (name := Str.ofString "__next__") hT PySem.F.slot_enumerate_next
    (wpAny_call_entry PySem.F.slot_enumerate_next hT PySem.F.entry_enumerate_next
      (enumT_item0 he hit hl hx hne fun h' a b c d k => wpAny_pure (hQ h' a b c d k)) (PySem.F.args_enumerate_next_1 _))))
theorem enumT_end {e it l : Addr} {i : Nat} {items : Array Value} {old : Value} {Q : Option Value → Shared → Prop} (hh : A.handled = none)
    (he : IsEnum s.heap e it i old) (hit : s.heap.IsTupleIter it l i) (hl : s.heap.IsTuple l items) (hx : items[i]? = none)
    (hQ : ∀ h', Heap.ExtBut it s.heap h' → Q none { s with heap := h' }) : wpAny (model prog w) A (pyNext (.ref e)) Q E s := by
  have hT : s.TypeIs (.ref e) "enumerate" := ⟨_, he, rfl⟩
  unfold pyNext
  refine wpAny_bind (wpAny_attempt (wpAny_callSpecial?_slot (name := Str.ofString "__next__") hT PySem.F.slot_enumerate_next
    (wpAny_call_entry PySem.F.slot_enumerate_next hT PySem.F.entry_enumerate_next ?_ (PySem.F.args_enumerate_next_1 _))))
  show wpAny _ _ (field (.ref e) 2 >>= _) _ _ _
  refine wpAny_bind (wpAny_field he rfl (x := .ref it) rfl ?_)
  refine wpAny_bind (nextOf_tup_end hh hit hl hx fun h' x he' hx' => ?_)
  obtain ⟨o, ho, hc⟩ := hx'
  refine wpAny_bind (wpAny_isInstance (T := "StopIteration") (b := true) ⟨o, ho, hc⟩ isSubtype_stop ?_)
  exact wpAny_pure (hQ _ he')
end
theorem meets_enum_newT (l : Addr) (items : Array Value) (n : Nat) :
    Meets (Builtin.«enumerate.__new__» ⟨[.type "enumerate", .ref l], []⟩) (fun _ R s => s.heap.get? l = some { cls := .type "tuple", dict := none, data := .seq items n, slots := #[] } ∧
      R (.ok (.ret (.ref (s.heap.push { cls := .type "tuple_iterator", data := .fields #[.ref l, .int 0 0] }).objs.size)))
        { s with heap := (s.heap.push { cls := .type "tuple_iterator", data := .fields #[.ref l, .int 0 0] }).push { cls := .type "enumerate", data := .fields #[.none, .bool false, .ref s.heap.objs.size, rawInt 0, .none, .none] } }) :=
  .of_wp fun prog w A R s h => by
    obtain ⟨hp, g, d, tk, os⟩ := s; obtain ⟨hl, h⟩ := h
    have hsub := sub_enumerate
    have hL : Heap.IsTuple (Shared.heap ⟨hp, g, d, tk, os⟩) l items := ⟨_, hl, rfl, n, rfl⟩
    wp_walk using PySem.AutoSeq1.wpAny_loadPart' hl
    refine wpAny_stack_any fun st => wpAny_pure ?_
    split
    · rename_i c _ _ _ _ _
      cases (c == Value.type "enumerate")
      · wp_walk using PySem.AutoSeq1.wpAny_loadPart' hl, wpAny_pyIter_tuple hL
        exact ⟨_, rfl, h⟩
      · wp_walk using PySem.AutoSeq1.wpAny_loadPart' hl, wpAny_pyIter_tuple hL
        exact ⟨_, rfl, h⟩
    · wp_walk using PySem.AutoSeq1.wpAny_loadPart' hl, wpAny_pyIter_tuple hL
      exact ⟨_, rfl, h⟩
theorem call_enum_tuple {prog : Program} {w : World} {A : Around} {E : Value → Shared → Prop} {s : Shared} {l : Addr} {items : Array Value} {n : Nat} {Q : Value → Shared → Prop} (hl : s.heap.get? l = some { cls := .type "tuple", dict := none, data := .seq items n, slots := #[] })
    (h : ∀ h', IsEnum h' (s.heap.objs.size + 1) s.heap.objs.size 0 .none → h'.IsTupleIter s.heap.objs.size l 0 → h'.objs.size = s.heap.objs.size + 2 →
      (∀ b o, s.heap.get? b = some o → h'.get? b = some o) → Q (.ref (s.heap.objs.size + 1)) { s with heap := h' }) :
    wpAny (model prog w) A (call (.type "enumerate") [.ref l]) Q E s := by
  refine callType_new PySem.F.called_enumerate (by decide) (PySem.F.typeCall_enumerate_1 _) (PySem.F.newCall_enumerate_1 _) (fun obj => PySem.F.args_object_init_2 obj _) PySem.F.entry_enumerate_new
    (meets_enum_newT l items n) ⟨hl, ?_⟩
  have hz : (s.heap.push { cls := .type "tuple_iterator", data := .fields #[.ref l, .int 0 0] }).objs.size = s.heap.objs.size + 1 := Heap.size_push ..
  show _ ∧ _
  rw [hz]
  have he : IsEnum ((s.heap.push { cls := .type "tuple_iterator", data := .fields #[.ref l, .int 0 0] }).push
      { cls := .type "enumerate", data := .fields #[.none, .bool false, .ref s.heap.objs.size, rawInt 0, .none, .none] }) (s.heap.objs.size + 1) s.heap.objs.size 0 .none := by
    have := Heap.get?_push_size (s.heap.push { cls := .type "tuple_iterator", data := .fields #[.ref l, .int 0 0] })
      (o := { cls := .type "enumerate", data := .fields #[.none, .bool false, .ref s.heap.objs.size, rawInt 0, .none, .none] }) rfl
    rw [hz] at this; exact this
  refine ⟨⟨_, he, rfl⟩, h _ he ⟨_, Heap.get?_push_of_some _ (Heap.get?_push_size _ rfl), rfl, rfl⟩ (by rw [Heap.size_push, hz]) fun b o x => Heap.get?_push_of_some _ (Heap.get?_push_of_some _ x)⟩

theorem at_CompEnum : True := by
  w_top off
  exact trivial
section
variable {prog : Program} {w : World} {A : Around} {E : Value → Shared → Prop} {s : Shared} {h₀ : Heap} {L : Addr} {m : Str → Option Value} {env : Env}
def EnumTurn (prog : Program) (w : World) (A : Around) (h₀ : Heap) (L : Addr) (m : Str → Option Value) (env : Env) (elt : Expr) (a b : Str) (scope : Scope) (cl : List (Str × Addr)) (s₁ : Shared) (news : List (Addr × Obj)) (its : Array Value) {β : Type} (R : β → Value → Prop) (f : Nat → β) : Prop :=
  ∀ (i : Nat) (t : Tok) (v : Value) (C : Addr) (oC : Obj) (D : Addr) (ys : List Value) (e it : Addr) (oE oI : Obj) (m₂ : Str → Option Value) (h : Heap) (tk : Nat) (E' : Value → Shared → Prop), its[i]? = some v → NsObj oC m₂ → m₂ a = some (.int (i : Int) t) → m₂ b = some v →
    Fr h₀ L h m → News h₀ L h ((C, oC) :: (D, lst ys) :: (e, oE) :: (it, oI) :: news) →
    wpAny (model prog w) A (eval elt (compEnvC scope cl C env)) (EltK { s₁ with heap := h, toks := tk } h₀ L m ((C, oC) :: (D, lst ys) :: (e, oE) :: (it, oI) :: news) (R (f i))) E' { s₁ with heap := h, toks := tk }
def EnumSrc (prog : Program) (w : World) (A : Around) (h₀ : Heap) (L : Addr) (m : Str → Option Value) (env : Env) (elt : Expr) (a b : Str) (scope : Scope) (cl : List (Str × Addr)) (y : Str) {β : Type} (R : β → Value → Prop) (f : Nat → β) (Q : Flow → Shared → Prop) (xv : Value) (s₁ : Shared) : Prop :=
  ∃ (e it t : Addr) (oT : Obj) (its : Array Value) (nT : Nat) (news : List (Addr × Obj)), xv = .ref e ∧ A.handled = none ∧ Fr h₀ L s₁.heap m ∧ News h₀ L s₁.heap news ∧ (∀ p ∈ news, p.1 ≠ e ∧ p.1 ≠ it) ∧ IsEnum s₁.heap e it 0 .none ∧ s₁.heap.IsTupleIter it t 0 ∧ (t, oT) ∈ news ∧ oT.cls = .type "tuple" ∧ oT.data = .seq its nT ∧
    e ≠ it ∧ L ≠ e ∧ L ≠ it ∧ h₀.get? e = none ∧ h₀.get? it = none ∧ its.size ≤ sizeLine ∧
    EnumTurn prog w A h₀ L m env elt a b scope cl s₁ news its R f ∧
    (∀ D ys h tk, Paired R ((List.range its.size).map f) ys → Fr h₀ L h (fun z => if z = y then some (.ref D) else m z) → News h₀ L h ((D, lst ys) :: news) → (∀ p ∈ news, p.1 < D) → Q .next { s₁ with heap := h, toks := tk })
theorem Assign_comp_enum {elt iter : Expr} {a b y : Str} {pa pb tp py : Pos} {kk : Nat} {scope : Scope} {cl : List (Str × Addr)} {pos spos : Pos} {Q : Flow → Shared → Prop} {β : Type} (R : β → Value → Prop) (f : Nat → β) (_F₀ : Fr h₀ L s.heap m) (hLe : env.locals = L)
    (hsw : swapsWith (.ListComp elt [⟨.Tuple [.Name a pa, .Name b pb] kk tp, iter, [], 0⟩] scope pos) (some (.Name y py)) spos.line env = pure true)
    (hclos : closureFor scope env = pure cl) (hcell : ∀ z ∈ scope.names, z.2 ≠ .cell) (hkind : scope.kind = .function)
    (hnames : ∀ z ∈ scope.names, z.2 = .local → scope.names.lookup z.1 = some .local) (ha : scope.names.lookup a = some .local) (hb : scope.names.lookup b = some .local) (hab : a ≠ b)
    (hy : env.kindOf y = some .local) (hp : (env.scope.kind == .class || (env.scope.kind == .module && env.locals != env.globals)) = false)
    (h : wpAny (model prog w) A (eval iter env) (EnumSrc prog w A h₀ L m env elt a b scope cl y R f Q) E s)
    (hs : ∀ x, foldedSetIterable iter env x = pure x := by intro _; rfl) :
    wpAny (model prog w) A (exec (.Assign [.Name y py] (.ListComp elt [⟨.Tuple [.Name a pa, .Name b pb] kk tp, iter, [], 0⟩] scope pos) spos) env) Q E s := by
  subst hLe
  rw [exec_Assign_Name_used _ _ _ _ hsw]
  refine wpAny_bind (wpAny_standAt (wpAny_bind ?_))
  show wpAny _ A (do let _ ← comprehension (.ListComp elt [⟨.Tuple [.Name a pa, .Name b pb] kk tp, iter, [], 0⟩] scope pos) scope env _ (newList []) false (eval iter env) (some (assign (.Name y py) env))) _ _ s
  refine wpAny_bind (wpAny_mono (wpAny_comprehension_free (use := some (assign (.Name y py) env)) (Q := fun _ s' => Q .next s') rfl hs hclos hkind hnames
    (wpAny_mono h (fun xv s₁ h₁ => ?_) fun _ _ e => e)) (fun _ s' hq => wpAny_pure (wpAny_pure hq)) fun _ _ e => e)
  obtain ⟨e, it, t, oT, its, nT, news, rfl, hh, F, N, off, he, hit, htm, htc, htd, hei, hLe, hLi, he0, hi0, hsz, turn, fin⟩ := h₁
  have ht : s₁.heap.IsTuple t its := ⟨oT, (N _ htm).1, htc, nT, htd⟩
  have hte : t ≠ e := (off _ htm).1
  have hti : t ≠ it := (off _ htm).2
  refine wpAny_pyIter_enum he ?_
  refine wpAny_newObj_type (wpAny_newFunctionEnv hcell (by intro y hy; simp at hy) (fun h₁ hns₁ hsb₁ => ?_) hkind)
  dsimp only at hns₁ hsb₁ ⊢
  generalize hH2 : s₁.heap.push { cls := .type "list", dict := none, data := .seq ([] : List Value).toArray } = H2 at hns₁ hsb₁ ⊢
  generalize hDe : s₁.heap.objs.size = D at *
  have hC : H2.objs.size = D + 1 := by rw [← hH2, Heap.size_push, hDe]
  rw [hC] at hns₁ hsb₁ ⊢
  have new : ∀ c, D ≤ c → s₁.heap.get? c = none := fun c hc => by
    cases q : s₁.heap.get? c with
    | none => rfl
    | some o => exact absurd (Heap.lt_size q) (Nat.not_lt.mpr (hDe ▸ hc))
  have new0 : ∀ c, D ≤ c → h₀.get? c = none := fun c hc => by
    cases q : h₀.get? c with
    | none => rfl
    | some o => have := F.keep c o q; rw [new c hc] at this; cases this
  have lt : ∀ c o, s₁.heap.get? c = some o → @LT.lt Nat _ c D := fun c o q => hDe ▸ Heap.lt_size q
  have hL : @LT.lt Nat _ env.locals D := hDe ▸ F.ns.lt
  have hltN : ∀ p ∈ news, @LT.lt Nat _ p.1 D := fun p hp => lt _ _ (N p hp).1
  have helt := lt _ _ he
  have hilt : @LT.lt Nat _ it D := by obtain ⟨o, q, _⟩ := hit; exact lt _ _ q
  have htlt : @LT.lt Nat _ t D := by obtain ⟨o, q, _⟩ := ht; exact lt _ _ q
  have old : ∀ c o, s₁.heap.get? c = some o → h₁.get? c = some o := fun c o q => hsb₁.extBut c o (by have := lt _ _ q; show @Ne Nat c (D + 1); omega) (Heap.get?_push_of_some _ (hH2 ▸ Heap.get?_push_of_some _ q))
  have hacc : h₁.get? D = some (lst []) := hsb₁.extBut _ _ (by show @Ne Nat D (D + 1); omega) (Heap.get?_push_of_some _ (hH2 ▸ hDe ▸ Heap.get?_push_size _ rfl))
  have hwrite : ∀ c ∈ news.map (·.1), c ≠ e ∧ c ≠ it := fun c hc => by obtain ⟨p, hp, rfl⟩ := List.mem_map.mp hc; exact off p hp
  have loop : ∀ s₃ : Shared, s₃ = { s₁ with heap := h₁, toks := s₁.toks + ([] : List (Str × Value)).length } →
      codeAny (model prog w) A (.compLoop (.ListComp elt [⟨.Tuple [.Name a pa, .Name b pb] kk tp, iter, [], 0⟩] scope pos) 0 (.ref e) (.ref D) (compEnvC scope cl (D + 1) env))
        (compPost (model prog w) A E (some (assign (.Name y py) env)) (fun _ s' => Q .next s') (.ref D) (D + 1)) s₃ := by
    rintro s₃ rfl
    refine kcp_loop (fun k s' => ∃ h' tk i ys m' old', s' = { s₁ with heap := h', toks := tk } ∧ i ≤ its.size ∧ k = its.size + 1 - i ∧ ys.length = i ∧ IsEnum h' e it i old' ∧ h'.IsTupleIter it t i ∧ h'.IsTuple t its ∧ Fr h₀ env.locals h' m ∧ h'.Ns (D + 1) m' ∧ News h₀ env.locals h' ((D, lst ys) :: news) ∧
        Paired R ((List.range i).map f) ys) ?_ (its.size + 1) ⟨h₁, _, 0, [], _, .none, rfl, Nat.zero_le _, rfl, rfl, old _ _ he, ?_, ?_, F.keeps old, hns₁, ?_, .nil⟩
    · rintro k s' ⟨h', tk, i, ys, m', old', rfl, hi, rfl, hyl, he', hit', ht', F', hn', N', hpr⟩
      have hD' := N' _ List.mem_cons_self
      by_cases hin : i < its.size
      · have hx : its[i]? = some its[i] := Array.getElem?_eq_getElem hin
        refine enumT_item he' hit' ht' hx hei fun h₂ ho₂ hit₂ hT₂ hz₂ hk₂ => ?_
        have hTn : @LT.lt Nat _ (D + 1) h'.objs.size := hn'.lt
        have hTs : @LT.lt Nat _ D h'.objs.size := Heap.lt_size hD'.1
        have k2 : ∀ c o, c ∉ [e] → c ∉ [it] → h'.get? c = some o → h₂.get? c = some o := fun c o h1 h2 q => hk₂ c o (by simpa using h1) (by simpa using h2) q
        have F₂ : Fr h₀ env.locals h₂ m := ⟨F'.ns.at' fun o q => hk₂ _ o hLe hLi q, fun c o q => hk₂ c o (fun z => by rw [z, he0] at q; cases q) (fun z => by rw [z, hi0] at q; cases q) (F'.keep c o q), F'.above⟩
        have Nw : ∀ {H : Heap}, (∀ c o, c ≠ e → c ≠ it → h'.get? c = some o → H.get? c = some o) → News h₀ env.locals H ((D, lst ys) :: news) := fun hk p hp => by
          refine ⟨hk _ _ ?_ ?_ (N' p hp).1, (N' p hp).2⟩
          · rcases List.mem_cons.mp hp with rfl | hp
            · show @Ne Nat D e; omega
            · exact (off p hp).1
          · rcases List.mem_cons.mp hp with rfl | hp
            · show @Ne Nat D it; omega
            · exact (off p hp).2
        refine wpAny_letOwnedTupleGo_enum ho₂ fun h₃ he₃ hs₃ => ?_
        have hk₃ : ∀ c o, c ≠ e → c ≠ it → h'.get? c = some o → h₃.get? c = some o := fun c o h1 h2 q => hs₃.extBut c o h1 (hk₂ c o h1 h2 q)
        have hT₃ : h₃.IsTuple h'.objs.size #[.int i tk, its[i]] := ⟨_, hs₃.extBut _ _ (by show @Ne Nat h'.objs.size e; omega) hT₂, rfl, _, rfl⟩
        have hn₃ : h₃.Ns (compEnvC scope cl (D + 1) env).locals m' := hn'.at' fun o q => hk₃ _ o (by show @Ne Nat (D + 1) e; omega) (by show @Ne Nat (D + 1) it; omega) q
        have hit₃ : h₃.IsTupleIter it t (i + 1) := hit₂.extBut hs₃.extBut (Ne.symm hei)
        refine kcp_assign (env := compEnvC scope cl (D + 1) env) hh hT₃ (lookup_relabel_local ha) (lookup_relabel_local hb) (by simp [compEnvC, relabel, hkind]) hn₃ (fun h₄ tk₄ hn₄ hk₄ => ?_)
        have up : ∀ c o, @Ne Nat c (D + 1) → c ≠ e → c ≠ it → h'.get? c = some o → h₄.get? c = some o := fun c o h0 h1 h2 q => hk₄ c o h0 (hk₃ c o h1 h2 q)
        have he₄ : IsEnum h₄ e it ((i + 1 : Nat) : Int) its[i] := hk₄ _ _ (by show @Ne Nat e (D + 1); omega) (by simpa using he₃)
        have hit₄ : h₄.IsTupleIter it t (i + 1) := by obtain ⟨o, q, r⟩ := hit₃; exact ⟨o, hk₄ _ _ (by show @Ne Nat it (D + 1); omega) q, r⟩
        have ht₄ : h₄.IsTuple t its := by obtain ⟨o, q, r⟩ := ht'; exact ⟨o, up _ _ (by omega) hte hti q, r⟩
        have F₄ : Fr h₀ env.locals h₄ m := ⟨F'.ns.at' fun o q => up _ o (by omega) hLe hLi q, fun c o q => up c o (fun z => by rw [z, new0 (D + 1) (by omega)] at q; cases q) (fun z => by rw [z, he0] at q; cases q) (fun z => by rw [z, hi0] at q; cases q) (F'.keep c o q), F'.above⟩
        obtain ⟨oC, heC, hoC⟩ := ns_obj hn₄
        obtain ⟨oI, heI, hcI, hdI⟩ := hit₄
        have N₄ : News h₀ env.locals h₄ ((D + 1, oC) :: (D, lst ys) :: (e, _) :: (it, oI) :: news) := fun p hp => by
          rcases List.mem_cons.mp hp with rfl | hp
          · exact ⟨heC, by show @Ne Nat (D + 1) env.locals; omega, new0 _ (by omega)⟩
          rcases List.mem_cons.mp hp with rfl | hp
          · exact ⟨up _ _ (by omega) (by show @Ne Nat D e; omega) (by show @Ne Nat D it; omega) hD'.1, hD'.2⟩
          rcases List.mem_cons.mp hp with rfl | hp
          · exact ⟨he₄, Ne.symm hLe, he0⟩
          rcases List.mem_cons.mp hp with rfl | hp
          · exact ⟨heI, Ne.symm hLi, hi0⟩
          · have z := N' p (List.mem_cons_of_mem _ hp)
            have := hltN p hp
            exact ⟨up _ _ (by omega) (off p hp).1 (off p hp).2 z.1, z.2⟩
        refine wpAny_mono (turn i tk its[i] (D + 1) oC D ys e it _ oI _ h₄ _ _ hx hoC (by simp [hab]) (by simp) F₄ N₄) (fun yv s₅ h₅ => ?_) fun _ _ q => q
        obtain ⟨h₅, tk₅, rfl, F₅, N₅, hy5⟩ := h₅
        have zC := (N₅ _ List.mem_cons_self).1
        have hD₅ : h₅.get? D = some (lst ys) := (N₅ _ (List.mem_cons_of_mem _ List.mem_cons_self)).1
        have zE := (N₅ _ (List.mem_cons_of_mem _ (List.mem_cons_of_mem _ List.mem_cons_self))).1
        have zI := (N₅ _ (List.mem_cons_of_mem _ (List.mem_cons_of_mem _ (List.mem_cons_of_mem _ List.mem_cons_self)))).1
        have zN : ∀ p ∈ news, h₅.get? p.1 = some p.2 := fun p hp => (N₅ p (List.mem_cons_of_mem _ (List.mem_cons_of_mem _ (List.mem_cons_of_mem _ (List.mem_cons_of_mem _ hp))))).1
        refine append_at (hsz := by show ys.toArray.size ≤ sizeLine; rw [List.size_toArray, hyl]; exact Nat.le_trans hi hsz) hD₅ fun h₆ hs₆ hD₆ => ?_
        have k6 : ∀ c o, @Ne Nat c D → h₅.get? c = some o → h₆.get? c = some o := fun c o h0 q => hs₆.extBut c o h0 q
        refine ⟨its.size + 1 - (i + 1), by omega, h₆, tk₅, i + 1, ys ++ [yv], _, its[i], rfl, hin, rfl, by rw [List.length_append, List.length_singleton, hyl], k6 _ _ (by show @Ne Nat e D; omega) zE, ?_, ?_, F₅.change hs₆ hD'.2.1 hD'.2.2, (hoC.ns zC).sameBut hs₆ (by show @Ne Nat (D + 1) D; omega), ?_, ?_⟩
        · exact ⟨oI, k6 _ _ (by show @Ne Nat it D; omega) zI, hcI, hdI⟩
        · exact ⟨oT, k6 _ _ (by show @Ne Nat t D; omega) (zN _ htm), htc, nT, htd⟩
        · intro p hp
          rcases List.mem_cons.mp hp with rfl | hp
          · exact ⟨hD₆.trans (congrArg some (lst_snoc ys yv)), hD'.2⟩
          · have z := N' p (List.mem_cons_of_mem _ hp)
            have := hltN p hp
            exact ⟨k6 _ _ (by omega) (zN p hp), z.2⟩
        · rw [List.range_succ, List.map_append]; exact Paired.snoc hpr hy5
      · obtain rfl : i = its.size := by omega
        refine enumT_end hh he' hit' ht' (Array.getElem?_eq_none (Nat.le_refl _)) fun h₂ hk₂ => ?_
        have F₂ : Fr h₀ env.locals h₂ m := ⟨F'.ns.at' fun o q => hk₂ _ o hLi q, fun c o q => hk₂ c o (fun z => by rw [z, hi0] at q; cases q) (F'.keep c o q), F'.above⟩
        show wpAny _ A (assign (.Name y py) env (.ref D)) _ _ _
        refine wpAny_assign_Name (wpAny_storeName_local hy F₂.ns (fun h₃ hn₃ hs₃ => ?_) hp)
        have hnC : h₃.Ns (D + 1) m' := (hn'.at' fun o q => hk₂ _ o (by show @Ne Nat (D + 1) it; omega) q).sameBut hs₃ (by show @Ne Nat (D + 1) env.locals; omega)
        refine ⟨m', hnC, fun h₄ hs₄ => ?_⟩
        have F₃ := F₂.set hn₃ hs₃
        refine fin D ys h₄ _ hpr (F₃.change hs₄ (by show @Ne Nat (D + 1) env.locals; omega) (new0 _ (by omega))) (fun p hp => ?_) (fun p hp => hltN p hp)
        have z := N' p hp
        refine ⟨hs₄.extBut _ _ ?_ (hs₃.extBut _ _ z.2.1 (hk₂ _ _ ?_ z.1)), z.2⟩
        · rcases List.mem_cons.mp hp with rfl | hp
          · show @Ne Nat D (D + 1); omega
          · have := hltN p hp; show @Ne Nat p.1 (D + 1); omega
        · rcases List.mem_cons.mp hp with rfl | hp
          · show @Ne Nat D it; omega
          · exact (off p hp).2
    · obtain ⟨o, q, r⟩ := hit; exact ⟨o, old _ _ q, r⟩
    · obtain ⟨o, q, r⟩ := ht; exact ⟨o, old _ _ q, r⟩
    · intro p hp
      rcases List.mem_cons.mp hp with rfl | hp
      · exact ⟨hacc, by show @Ne Nat D env.locals; omega, new0 _ (Nat.le_refl _)⟩
      · exact ⟨old _ _ (N p hp).1, (N p hp).2⟩
  exact codeAny_compStart_list (loop _ rfl) (wpAny_pyIter_enum (old _ _ he) (loop _ rfl))
end

theorem at_LawDef : True := by
  w_top off
  exact trivial
def bodyOf : Stmt → List Stmt
  | .FunctionDef _ _ b _ _ _ _ _ _ _ => b
  | .For _ _ b _ _ => b
  | _ => []
def scopeOf : Stmt → Scope
  | .FunctionDef _ _ _ _ _ _ sc _ _ _ => sc
  | _ => { kind := .function, names := [], isGenerator := false, isCoroutine := false, more := [] }
def lastS : List Stmt → Stmt
  | [] => .Pass ⟨0, 0, 0, 0⟩
  | [s] => s
  | _ :: b :: r => lastS (b :: r)
def after6 : List Stmt → List Stmt
  | _ :: _ :: _ :: _ :: _ :: _ :: r => r
  | _ => []
def after5 : List Stmt → List Stmt
  | _ :: _ :: _ :: _ :: _ :: r => r
  | _ => []
def headS : List Stmt → Stmt
  | s :: _ => s
  | _ => .Pass ⟨0, 0, 0, 0⟩
noncomputable def lawStmt : Stmt := lastS Challenge.pw_ph0017_01.main.body
noncomputable def lawBody : List Stmt := bodyOf lawStmt
noncomputable def lawScope : Scope := scopeOf lawStmt
/-- from the first loop on; its body; from the second loop on; its body -/
noncomputable def lawLoop1 : List Stmt := after6 lawBody
noncomputable def lawTurn1 : List Stmt := bodyOf (headS lawLoop1)
noncomputable def lawLoop2 : List Stmt := after5 lawLoop1
noncomputable def lawTurn2 : List Stmt := bodyOf (headS lawLoop2)
noncomputable abbrev lawEnv (L a : Addr) (cd : Value) : Env := envOfC (Str.ofString "law") lawScope L a cd

theorem at_LawA : True := by
  w_top off
  exact trivial
/-- a number below 512, a value that holds it -/
abbrev IsN (_ : Unit) (v : Value) : Prop := ∃ (z : Nat) (t : Tok), v = .int (z : Int) t ∧ z < 512
theorem isN_mod (x : Int) (t : Tok) : IsN () (.int (x.fmod 512) t) := by
  have h0 : 0 ≤ x.fmod 512 := Int.fmod_nonneg_of_pos x (by decide)
  have h1 : x.fmod 512 < 512 := Int.fmod_lt_of_pos x (by decide)
  exact ⟨(x.fmod 512).toNat, t, by rw [Int.toNat_of_nonneg h0], by omega⟩
theorem three_of {ys : List Value} (h : Paired IsN ((List.range 3).map (fun _ => ())) ys) : ∃ (n0 n1 n2 : Nat) (t0 t1 t2 : Tok), ys = [.int (n0 : Int) t0, .int (n1 : Int) t1, .int (n2 : Int) t2] ∧ n0 < 512 ∧ n1 < 512 ∧ n2 < 512 := by
  cases h with
  | cons h0 h =>
    cases h with
    | cons h1 h =>
      cases h with
      | cons h2 h =>
        cases h
        obtain ⟨n0, t0, rfl, l0⟩ := h0
        obtain ⟨n1, t1, rfl, l1⟩ := h1
        obtain ⟨n2, t2, rfl, l2⟩ := h2
        exact ⟨n0, n1, n2, t0, t1, t2, rfl, l0, l1, l2⟩
theorem isPl (x : Int) : ∃ pl : Nat, pl < 24 ∧ x.fmod 24 = (pl : Int) := by
  have h0 : 0 ≤ x.fmod 24 := Int.fmod_nonneg_of_pos x (by decide)
  have h1 : x.fmod 24 < 24 := Int.fmod_lt_of_pos x (by decide)
  exact ⟨(x.fmod 24).toNat, by omega, by rw [Int.toNat_of_nonneg h0]⟩
/-- the nine words of the places from pl on; the row of the nine in brackets -/
def WS (pl : Nat) : List Str := (List.range 9).map (fun i => Mine.W (pl + i))
def rowL (pl : Nat) : List Str := (List.range 9).map (fun i => brk (Mine.W (pl + (8 - i))))
def rowT (pl : Nat) : Str := Txt.join (Str.ofString "") (rowL pl)
theorem rowL_fits (pl : Nat) : ((rowL pl).map (·.length)).sum + (rowL pl).length * (Str.ofString "").length ≤ 16777216 := by
  have h : ∀ l : List Nat, ((l.map (fun i => brk (Mine.W (pl + (8 - i))))).map (·.length)).sum ≤ 22 * l.length := by
    intro l
    induction l with
    | nil => simp
    | cons k r ih =>
      simp only [List.map_cons, List.sum_cons, List.length_cons]
      have := W_len (pl + (8 - k))
      have e : (brk (Mine.W (pl + (8 - k)))).length = 1 + (Mine.W (pl + (8 - k))).length + 1 := by
        unfold brk
        rw [Str.length_append, Str.length_append]; rfl
      omega
  have h9 := h (List.range 9)
  have hl : (rowL pl).length = 9 := by unfold rowL; simp
  have h0 : (Str.ofString "").length = 0 := by decide
  unfold rowL at *
  rw [h0]
  simp only [List.length_range] at h9
  omega
/-- what stands ahead of the first loop -/
def Loop1K (w : World) (L fa ls : Addr) (cd : Value) (h₀ : Heap) (s : Shared) (oF oPr : Obj) (Q : Flow → Shared → Prop) (E : Value → Shared → Prop) : Prop :=
  ∀ (D lw lo : Addr) (n0 n1 n2 : Nat) (t0 t1 t2 : Tok) (pl : Nat) (wv : List Value) (tp tr : Tok) (oPl oW : Obj) (h : Heap) (tk : Nat),
    n0 < 512 → n1 < 512 → n2 < 512 → pl < 24 → StrsAre wv (WS pl) → oPl.data = .cell (some (.int (pl : Int) tp)) → oW.data = .cell (some (.ref lw)) →
    (@LT.lt Nat _ (L + 1 + 1 + 1 + 1 + 1) D ∧ @LT.lt Nat _ (L + 1 + 1 + 1 + 1) D ∧ @LT.lt Nat _ (L + 1 + 1 + 1) D ∧ @LT.lt Nat _ (L + 1 + 1) D ∧ @LT.lt Nat _ (L + 1) D) →
    (@Ne Nat D lw ∧ @Ne Nat (L + 1 + 1 + 1 + 1 + 1) lw ∧ @Ne Nat (L + 1 + 1 + 1 + 1) lw ∧ @Ne Nat (L + 1 + 1 + 1) lw ∧ @Ne Nat (L + 1 + 1) lw) →
    (@LT.lt Nat _ lw lo ∧ @LT.lt Nat _ D lo ∧ @LT.lt Nat _ (L + 1 + 1 + 1 + 1 + 1) lo ∧ @LT.lt Nat _ (L + 1 + 1 + 1 + 1) lo ∧ @LT.lt Nat _ (L + 1 + 1 + 1) lo ∧ @LT.lt Nat _ (L + 1 + 1) lo) →
    Fr h₀ L h (fun z => if z = Str.ofString "octets" then some (.ref lo) else if z = Str.ofString "row" then some (.str (rowT pl) tr) else if z = Str.ofString "numbers" then some (.ref D) else if z = Str.ofString "script" then some (.ref ls) else none) →
    News h₀ L h [(lo, W.listOf #[] 0), (lw, lst wv), (D, lst [.int (n0 : Int) t0, .int (n1 : Int) t1, .int (n2 : Int) t2]), (L + 1 + 1 + 1 + 1 + 1, oF), (L + 1 + 1 + 1 + 1, oPr), (L + 1 + 1 + 1, oW), (L + 1 + 1, oPl)] →
    wpAny (model Challenge.rw_ph0017_01.row.prog w) (callerA.deeper (lawEnv L fa cd)) (execs lawLoop1 (lawEnv L fa cd)) Q E { s with heap := h, toks := tk }
theorem law_A (w : World) (mean mg mb) (L fa ls : Addr) (cd : Value) (vs : List Value) (ns : List Int) (h₀ : Heap) (s : Shared) (oF oPr oW oPl oDr : Obj) (Q : Flow → Shared → Prop) (E : Value → Shared → Prop)
    (B : Below callerA h₀ [] h₀) (X : (hd.heap_39 w.params).In h₀) (T : Top hd.view_39 loo mean mg mb h₀) (hls : h₀.IsList ls vs.toArray) (hI : IntsAre vs ns) (hlen : ns.length ≤ 63)
    (F : Fr h₀ L s.heap (fun z => if z = Str.ofString "script" then some (.ref ls) else none))
    (N : News h₀ L s.heap [(L + 1 + 1 + 1 + 1 + 1, oF), (L + 1 + 1 + 1 + 1, oPr), (L + 1 + 1 + 1, oW), (L + 1 + 1, oPl), (L + 1, oDr)])
    (dF : oF.data = .cell none) (dPr : oPr.data = .cell none) (dW : oW.data = .cell none) (dPl : oPl.data = .cell none) (dDr : oDr.data = .cell none)
    (hE : PassesOwn (model Challenge.rw_ph0017_01.row.prog w) (callerA.deeper (lawEnv L fa cd)) (lawEnv L fa cd) E) (hk : Loop1K w L fa ls cd h₀ s oF oPr Q E) :
    wpAny (model Challenge.rw_ph0017_01.row.prog w) (callerA.deeper (lawEnv L fa cd)) (execs lawBody (lawEnv L fa cd)) Q E s := by
  revert X; k_fill; intro X
  dsimp only [lawEnv, lawScope, scopeOf, lawBody, lawStmt, lastS, bodyOf, Challenge.pw_ph0017_01]
  walk_at "MINE to asgcomp"
  rename_i ld wd hA hId hCd hLd ltd hB oDr' F1 N1 dDr'
  k_dflt (refine Assign_comp_enum IsN (fun _ => ()) (by k_asm) (by rfl) (by with_unfolding_all rfl) (by with_unfolding_all rfl) (by decide) (by rfl) (by decide) (by rfl) (by rfl) (by decide) (by rfl) (by rfl) ?_)
  repeat ((fail_if_success (with_reducible show wpAny _ _ (PySem.call (Value.type _) _) _ _ _)); first | walk1 | (dsimp only; walk1))
  rename_i lt hC F2 N2 ltt
  refine call_enum_tuple (N2 _ List.mem_cons_self).1 ?_
  intro hD he hit hsz hk
  have F3 := F2.keeps hk
  have N3 := N2.grown hk
  have hlN : ∀ p ∈ _, @LT.lt Nat _ (Prod.fst p) hC.objs.size := fun p hp => Heap.lt_size (N2 p hp).1
  have hlL : @LT.lt Nat _ L hC.objs.size := F2.ns.lt
  have fresh : ∀ c, hC.objs.size ≤ c → h₀.get? c = none := fun c hc => by
    cases q : h₀.get? c with
    | none => rfl
    | some o => exact absurd (Heap.lt_size (F2.keep c o q)) (Nat.not_lt.mpr hc)
  refine ⟨_, _, lt, _, _, _, _, rfl, rfl, F3, N3, fun p hp => ⟨by have := hlN p hp; show @Ne Nat p.1 (hC.objs.size + 1); omega, by have := hlN p hp; show @Ne Nat p.1 hC.objs.size; omega⟩, he, hit, List.mem_cons_self, rfl, rfl,
    by show @Ne Nat (hC.objs.size + 1) hC.objs.size; omega, by show @Ne Nat L (hC.objs.size + 1); omega, by show @Ne Nat L hC.objs.size; omega, fresh _ (Nat.le_succ _), fresh _ (Nat.le_refl _), by show 3 ≤ sizeLine; rw [sizeLine_eq]; decide, ?_, ?_⟩
  · intro i t v C oC D ys e it oE oI m₂ h tk E' hv hC2 hma hmb F9 N9
    obtain ⟨z, tz, rfl⟩ : ∃ z tz, v = .int z tz := by
      have hi3 : i < 3 := by
        rcases Nat.lt_or_ge i 3 with q | q
        · exact q
        · rw [Array.getElem?_eq_none (by exact q)] at hv; cases hv
      have hi : i = 0 ∨ i = 1 ∨ i = 2 := by omega
      rcases hi with rfl | rfl | rfl <;> exact ⟨_, _, (Option.some.inj hv).symm⟩
    walk_at "MINE to builtin"
    (rename News _ _ _ _ => N8)
    (rename Fr _ _ _ _ => F8)
    have hz : IntsAre (slicePick wd.toArray (some (i : Int)) none (some 3)).toList (pickNums (ns.take 60) (some (i : Int)) none (some 3)) := hId.pick _ _ _
    have e8 := (N8 _ List.mem_cons_self).1
    dsimp only at e8
    refine LSm.sum_ints F8 N8 rfl (vs := (slicePick wd.toArray (some (i : Int)) none (some 3)).toList) ?_ hz ?_
    · exact ⟨_, e8, rfl, 0, by simp⟩
    · intro h7 tk7 t7 F7 N7
      dsimp only
      k_steps
      exact EltK.intro (by assumption) (by assumption) (fun p hp => List.mem_cons_of_mem _ hp) (isN_mod _ _)
  · intro D ys h tk hys F9 N9 ltD
    obtain ⟨n0, n1, n2, t0, t1, t2, rfl, hn0, hn1, hn2⟩ := three_of hys
    have F9 : Fr h₀ L h (fun z => if z = Str.ofString "numbers" then some (.ref D) else if z = Str.ofString "script" then some (.ref ls) else none) := F9
    have hDlt := allLt_of ltD
    simp only [AllLt, and_true] at hDlt
    clear ltD
    dsimp only
    walk_at "MINE to comp"
    rename_i hX tkX tX hY oPl' F10 N10 dPl'
    obtain ⟨pl, hpl, epl⟩ := isPl (5 + (List.take 60 ns).sum)
    rw [epl] at dPl'
    replace N10 := cb_drop (news := [(D, lst [Value.int (n0 : Int) t0, Value.int (n1 : Int) t1, Value.int (n2 : Int) t2]), (L + 1 + 1 + 1 + 1 + 1, oF), (L + 1 + 1 + 1 + 1, oPr), (L + 1 + 1 + 1, oW), (L + 1 + 1, oPl')]) N10 (by kcj_all)
    clear epl hId hCd hLd hk he hit hsz hlN fresh hys
    walk_at "MINE comp U"
    refine CompSrc.range (by rfl) (by k_asm) (by k_asm) (by assumption) (by first | decide | rfl) (by first | rfl | decide) (by rw [sizeLine_eq]; decide) ?_
    intro g11
    refine rest_U IsS (fun i => Mine.W (pl + i)) _ trivial ?_ ?_
    · intro i v I oI C oC D2 ys m₂ h tk E' hi hv hC2 hx2 F11 N11 off ne
      obtain ⟨t9, rfl⟩ := hv
      have hi9 : i < 9 := hi
      walk_at "MINE to call"
      k_dflt (refine' Con.use (con_word w mean mg mb _ _ _ (by omega) (by omega)) ?k1 ?k2 ?k3 ?k4 ?k5 ?k6 ?k7 ?k8 ?_; walk_at "MINE use")
      rintro v h12 tk12 news12 F12 N12 ⟨t12, rfl, rfl⟩
      exact EltK.intro F12 N12 (fun p hp => hp) ⟨t12, by congr 2; omega⟩
    · intro ys hys D2 h tk FD ND O9
      dsimp only
      have hys2 : StrsAre ys (WS pl) := strs_of_paired hys
      simp only [Off1, and_true] at O9
      clear hys
      walk_at "MINE to comp"
      (rename _ = Data.cell (some (Value.ref D2)) => dW2)
      rename Obj => oW2
      walk_at "MINE comp U"
      refine CompSrc.range (by rfl) (by k_asm) (by k_asm) (by assumption) (by first | decide | rfl) (by first | rfl | decide) (by rw [sizeLine_eq]; decide) ?_
      intro g12
      refine rest_U IsS (fun i => brk (Mine.W (pl + (8 - i)))) _ trivial ?_ ?_
      · intro i v I oI C oC D3 ys3 m₂ h tk E' hi hv hC2 hx2 F11 N11 off ne
        obtain ⟨t9, rfl⟩ := hv
        have hi9 : i < 9 := hi
        walk_at "MINE to sub"
        have ei : (8 - (0 + (i : Int))).toNat = 8 - i := by omega
        obtain ⟨t8, h8⟩ := hys2.get (8 - i) (Mine.W (pl + (8 - i))) (by unfold WS; rw [List.getElem?_map, List.getElem?_range (by omega)]; rfl)
        (rename News _ _ _ _ => N8)
        refine item_litK (vs := ys) (v := .str (Mine.W (pl + (8 - i))) t8) (News.isList N8 (by k_mem)) (by omega) (by omega) (by rw [ei]; exact h8) ?_
        dsimp only
        have hw := W_len (pl + (8 - i))
        k_steps
        exact EltK.intro (by assumption) (by assumption) (fun p hp => hp) ⟨_, rfl⟩
      · intro ys3 hys3 D3 h tk FD ND O93
        dsimp only
        have hys4 : StrsAre ys3 (rowL pl) := strs_of_paired hys3
        walk_at "MINE to builtin"
        refine join_list (ys := rowL pl) (News.isList ND List.mem_cons_self) (by simpa using hys4) (rowL_fits pl) (fun tj kj => ?_)
        dsimp only
        replace ND := cb_drop (news := [(D2, lst ys), (D, lst [Value.int (n0 : Int) t0, Value.int (n1 : Int) t1, Value.int (n2 : Int) t2]), (L + 1 + 1 + 1 + 1 + 1, oF), (L + 1 + 1 + 1 + 1, oPr), (L + 1 + 1 + 1, oW2), (L + 1 + 1, oPl')]) ND (by kcj_all)
        clear O93 hys3 hys4
        walk_at "MINE to fors"
        exact hk _ _ _ _ _ _ _ _ _ _ _ _ _ _ _ _ _ hn0 hn1 hn2 hpl hys2 dPl' dW2 hDlt.2.2 O9 (by assumption) (by assumption) (by assumption)

theorem at_LawB : True := by
  w_top off
  exact trivial
/-- what the loop's turn tells of one number: the words told; the pairs; the octets -/
noncomputable def toldT (n pl : Nat) : List Str := Txt.split (flagsT (n * 2 ^ pl)) (Str.ofString ", ")
noncomputable def pairsA (n pl : Nat) : List Str := pairsT (Mine.W pl) 1 (toldT n pl) ++ pairsT (Mine.W pl) 0 (WS pl)
def octs (n : Nat) : List Nat := (List.range 9).map (fun i => (if i = 8 then 0 else 64) + (if n.testBit (8 - i) then 1 else 0))
/-- the law of the text: what the walk needs of it -/
def TextLaw : Prop := ∀ n pl, n < 512 → pl < 24 → (toldT n pl).length ≤ 10 ∧ (∀ x ∈ toldT n pl, x.length ≤ 100) ∧ ReplOk (rowT pl) (pairsA n pl) ∧ replT (rowT pl) (pairsA n pl) = ⟨(octs n).toArray⟩
theorem updL1 {x p t o : Str} (h1 : x ≠ p) (h2 : x ≠ t) (h3 : x ≠ o) (h4 : p ≠ t) (h5 : p ≠ o) (h6 : t ≠ o) {a a' b' c' d' : Value} {u9 u8 u7 m₀ : Str → Option Value} :
    (fun y => if y = o then some a' else if y = p then some b' else if y = t then some c' else if y = x then some d' else if y = x then u9 y else if y = p then u8 y else if y = t then u7 y else if y = o then some a else m₀ y) =
      fun z => if z = x then (fun _ => some d') z else if z = p then (fun _ => some b') z else if z = t then (fun _ => some c') z else if z = o then some a' else m₀ z := by
  funext z
  by_cases e1 : z = x
  · subst e1; simp [h1, h2, h3]
  · by_cases e2 : z = p
    · subst e2; simp [h4, h5, Ne.symm h1]
    · by_cases e3 : z = t
      · subst e3; simp [h6, Ne.symm h2, Ne.symm h4]
      · by_cases e4 : z = o
        · subst e4; simp [e1, e2, e3]
        · simp [e1, e2, e3, e4]
def octsAll (ns : List Nat) : List Int := ns.flatMap (fun n => (octs n).map (fun (k : Nat) => (k : Int)))
theorem con_pretty2 (w : World) (mean mg mb) (n pl : Nat) (t : Tok) (news : Led) (hn : n < 512) (hpl : pl < 24) :
    Con w mean mg mb 22 [.int ((n : Int) * 2 ^ (pl : Int).toNat) t] news 1 (fun v news' => ∃ t', v = .str (flagsT (n * 2 ^ pl)) t' ∧ news' = news) := by
  have e : (n : Int) * 2 ^ (pl : Int).toNat = ((n * 2 ^ pl : Nat) : Int) := by rw [Int.toNat_natCast]; simp
  have h1 : n * 2 ^ pl < 512 * 2 ^ 23 := Nat.lt_of_lt_of_le (Nat.mul_lt_mul_of_pos_right hn (Nat.two_pow_pos _)) (Nat.mul_le_mul_left _ (Nat.pow_le_pow_right (by decide) (by omega)))
  have h2 : 512 * 2 ^ 23 = 2 ^ 32 := by decide
  have := con_pretty w mean mg mb ((n * 2 ^ pl : Nat) : Int) t news (Int.natCast_nonneg _) (by omega)
  rw [Int.toNat_natCast] at this
  rw [e]; exact this
theorem flagsT_len (x : Nat) : (flagsT x).length ≤ 1000 := by
  unfold flagsT
  split
  · decide
  · have h1 := StrLaws.join_length_le (Str.ofString ", ") ((bitsN 32 x).map W)
    have h2 := words_sum (bitsN 32 x)
    have h3 := bitsN_length 32 x
    rw [List.length_map] at h1
    have h4 : (Str.ofString ", ").length = 2 := by decide
    rw [h4] at h1
    show (Builtin.Str.glued _ _).length ≤ _
    rw [StrLaws.glued_eq_join]
    omega
theorem WS_len (pl : Nat) : ∀ x ∈ WS pl, x.length ≤ 1000 := by
  intro x hx
  unfold WS at hx
  obtain ⟨i, _, rfl⟩ := List.mem_map.mp hx
  exact Nat.le_trans (W_len _) (by decide)
theorem octs_length (n : Nat) : (octs n).length = 9 := by unfold octs; simp
theorem octs_lt (n : Nat) : ∀ c ∈ octs n, c < 128 := by
  intro c hc
  unfold octs at hc
  obtain ⟨i, _, rfl⟩ := List.mem_map.mp hc
  split <;> split <;> omega
theorem octs_ascii (n : Nat) : (⟨(octs n).toArray⟩ : Str).cps.all (· < 128) = true := by
  show (octs n).toArray.all (· < 128) = true
  rw [List.all_toArray, List.all_eq_true]
  intro c hc
  exact decide_eq_true (octs_lt n c hc)
theorem octs_getD (n : Nat) : (List.range (⟨(octs n).toArray⟩ : Str).cps.size).map (fun i => (((octs n).getD i 0 : Nat) : Int)) = (octs n).map (fun (k : Nat) => (k : Int)) := by
  show (List.range (octs n).toArray.size).map _ = _
  rw [List.size_toArray, octs_length]
  rfl
theorem octsAll_len (ns : List Nat) (i : Nat) : (octsAll (ns.take i)).length ≤ 9 * ns.length := by
  have h : ∀ l : List Nat, (octsAll l).length = 9 * l.length := by
    intro l
    induction l with
    | nil => rfl
    | cons a r ih =>
      unfold octsAll at ih ⊢
      rw [List.flatMap_cons, List.length_append, ih, List.length_map, octs_length, List.length_cons]; omega
  rw [h, List.length_take]
  omega
theorem octsAll_take {ns : List Nat} {i n : Nat} (h : ns[i]? = some n) : octsAll (ns.take (i + 1)) = octsAll (ns.take i) ++ (octs n).map (fun (k : Nat) => (k : Int)) := by
  unfold octsAll
  rw [List.take_add_one, h, Option.toList_some, List.flatMap_append, List.flatMap_singleton]
theorem norm2 (m : Str → Option Value) {a b c d : Value} (h1 : m (Str.ofString "ways") = some a) (h2 : m (Str.ofString "without") = some b) (h3 : m (Str.ofString "tape") = some c) (h4 : m (Str.ofString "numbers") = some d) :
    m = fun y => if y = Str.ofString "x" then m y else if y = Str.ofString "written" then m y else if y = Str.ofString "ways" then some a else if y = Str.ofString "without" then some b else if y = Str.ofString "tape" then some c else if y = Str.ofString "numbers" then some d else m y := by
  funext y
  by_cases e1 : y = Str.ofString "x"
  · rw [if_pos e1]
  · rw [if_neg e1]
    by_cases e2 : y = Str.ofString "written"
    · rw [if_pos e2]
    · rw [if_neg e2]
      by_cases e3 : y = Str.ofString "ways"
      · rw [if_pos e3, e3, h1]
      · rw [if_neg e3]
        by_cases e4 : y = Str.ofString "without"
        · rw [if_pos e4, e4, h2]
        · rw [if_neg e4]
          by_cases e5 : y = Str.ofString "tape"
          · rw [if_pos e5, e5, h3]
          · rw [if_neg e5]
            by_cases e6 : y = Str.ofString "numbers"
            · rw [if_pos e6, e6, h4]
            · rw [if_neg e6]
def ways0 : List Int := 1 :: List.replicate 24 0
/-- what stands ahead of the second loop -/
def Loop2K (w : World) (L fa : Addr) (cd : Value) (h₀ : Heap) (s : Shared) (oF : Obj) (Q : Flow → Shared → Prop) (E : Value → Shared → Prop) : Prop :=
  ∀ (D lo It dy : Addr) (n0 n1 n2 : Nat) (t0 t1 t2 tw tp : Tok) (ov yv : List Value) (k ny : Nat) (oIt oPr : Obj) (u9 u8 u7 : Str → Option Value) (h : Heap) (tk : Nat),
    n0 < 512 → n1 < 512 → n2 < 512 → IntsAre ov (octsAll [n0, n1, n2]) → IterAt oIt lo 0 → IntsAre yv ways0 → oPr.data = .cell (some (.int 1 tp)) →
    (@LT.lt Nat _ It dy ∧ @LT.lt Nat _ lo dy ∧ @LT.lt Nat _ D dy ∧ @LT.lt Nat _ (L + 1 + 1 + 1 + 1 + 1) dy ∧ @LT.lt Nat _ (L + 1 + 1 + 1 + 1) dy) →
    (@LT.lt Nat _ lo It ∧ @LT.lt Nat _ D It ∧ @LT.lt Nat _ (L + 1 + 1 + 1 + 1 + 1) It ∧ @LT.lt Nat _ (L + 1 + 1 + 1 + 1) It) →
    (@LT.lt Nat _ D lo ∧ @LT.lt Nat _ (L + 1 + 1 + 1 + 1 + 1) lo ∧ @LT.lt Nat _ (L + 1 + 1 + 1 + 1) lo) →
    (@LT.lt Nat _ (L + 1 + 1 + 1 + 1 + 1) D ∧ @LT.lt Nat _ (L + 1 + 1 + 1 + 1) D) →
    Fr h₀ L h (fun y => if y = Str.ofString "x" then u9 y else if y = Str.ofString "written" then u8 y else if y = Str.ofString "ways" then some (.ref dy) else if y = Str.ofString "without" then some (.int 1 tw) else if y = Str.ofString "tape" then some (.ref It) else if y = Str.ofString "numbers" then some (.ref D) else u7 y) →
    News h₀ L h [(dy, W.listOf yv.toArray ny), (It, oIt), (lo, W.listOf ov.toArray k), (D, lst [.int (n0 : Int) t0, .int (n1 : Int) t1, .int (n2 : Int) t2]), (L + 1 + 1 + 1 + 1 + 1, oF), (L + 1 + 1 + 1 + 1, oPr)] →
    wpAny (model Challenge.rw_ph0017_01.row.prog w) (callerA.deeper (lawEnv L fa cd)) (execs lawLoop2 (lawEnv L fa cd)) Q E { s with heap := h, toks := tk }
theorem law_B (TL : TextLaw) (w : World) (mean mg mb) (L fa ls : Addr) (cd : Value) (h₀ : Heap) (s : Shared) (oF oPr : Obj) (Q : Flow → Shared → Prop) (E : Value → Shared → Prop)
    (B : Below callerA h₀ [] h₀) (X : (hd.heap_39 w.params).In h₀) (T : Top hd.view_39 loo mean mg mb h₀) (dF : oF.data = .cell none) (dPr : oPr.data = .cell none)
    (hE : PassesOwn (model Challenge.rw_ph0017_01.row.prog w) (callerA.deeper (lawEnv L fa cd)) (lawEnv L fa cd) E) (hk : Loop2K w L fa cd h₀ s oF Q E) : Loop1K w L fa ls cd h₀ s oF oPr Q E := by
  intro D lw lo n0 n1 n2 t0 t1 t2 pl wv tp tr oPl oW h tk hn0 hn1 hn2 hpl hwv dPl dW hD hlw hlo F N
  revert X; k_fill; intro X
  dsimp only [lawEnv, lawScope, scopeOf, lawLoop1, after6, lawBody, lawStmt, lastS, bodyOf, Challenge.pw_ph0017_01]
  walk_at "MINE to for"
  k_dflt (refine for_list (by k_asm) (by rfl) (by rfl) ?_ (hE := hE))
  walk1
  refine ⟨D, [Value.int (n0 : Int) t0, Value.int (n1 : Int) t1, Value.int (n2 : Int) t2].toArray, _, _, (fun i m nw => ∃ (ov : List Value) (k : Nat) (u9 u8 u7 : Str → Option Value), nw = [(lo, W.listOf ov.toArray k), (lw, lst wv), (D, lst [.int (n0 : Int) t0, .int (n1 : Int) t1, .int (n2 : Int) t2]), (L + 1 + 1 + 1 + 1 + 1, oF), (L + 1 + 1 + 1 + 1, oPr), (L + 1 + 1 + 1, oW), (L + 1 + 1, oPl)] ∧
    IntsAre ov (octsAll ([n0, n1, n2].take i)) ∧
    m = fun z => if z = Str.ofString "x" then u9 z else if z = Str.ofString "pairs" then u8 z else if z = Str.ofString "told" then u7 z else if z = Str.ofString "octets" then some (.ref lo) else if z = Str.ofString "row" then some (.str (rowT pl) tr) else if z = Str.ofString "numbers" then some (.ref D) else if z = Str.ofString "script" then some (.ref ls) else none), rfl, rfl, F, N, ?_, ?_, ?_, ?_⟩
  · rintro i m nw ⟨ov, k, u9, u8, u7, rfl, _⟩
    exact Or.inr ⟨_, List.mem_cons_of_mem _ (List.mem_cons_of_mem _ List.mem_cons_self), rfl, _, rfl⟩
  · refine ⟨[], 0, fun _ => none, fun _ => none, fun _ => none, rfl, .nil, ?_⟩
    funext z
    by_cases e1 : z = Str.ofString "x"
    · subst e1; rfl
    · by_cases e2 : z = Str.ofString "pairs"
      · subst e2; rfl
      · by_cases e3 : z = Str.ofString "told"
        · subst e3; rfl
        · simp [e1, e2, e3]
  · rintro i v m₁ news₁ I oI h tk hv ⟨ov, k, u9, u8, u7, rfl, hov, rfl⟩ offI ltI F9 N9
    obtain ⟨n, tn, rfl, hn, hni⟩ : ∃ n tn, v = .int ((n : Nat) : Int) tn ∧ n < 512 ∧ [n0, n1, n2][i]? = some n := by
      have hi3 : i < 3 := by
        rcases Nat.lt_or_ge i 3 with q | q
        · exact q
        · rw [Array.getElem?_eq_none (by exact q)] at hv; cases hv
      have hi : i = 0 ∨ i = 1 ∨ i = 2 := by omega
      rcases hi with rfl | rfl | rfl
      · exact ⟨n0, t0, (Option.some.inj hv).symm, hn0, rfl⟩
      · exact ⟨n1, t1, (Option.some.inj hv).symm, hn1, rfl⟩
      · exact ⟨n2, t2, (Option.some.inj hv).symm, hn2, rfl⟩
    obtain ⟨hT1, hT2, hT3, hT4⟩ := TL n pl hn hpl
    walk_at "MINE to call"
    k_dflt (refine' Con.use (con_pretty2 w mean mg mb n pl _ _ hn hpl) ?k1 ?k2 ?k3 ?k4 ?k5 ?k6 ?k7 ?k8 ?_; walk_at "MINE use")
    rintro v h1 tk1 news1 F1 N1 ⟨tf, rfl, rfl⟩
    dsimp only
    walk_at "MINE to builtin"
    refine KSpl.split1 (by k_asm) (by k_asm) (by decide) ?_ (by have := flagsT_len (n * 2 ^ pl); rw [sizeLine_eq]; omega)
    intro Dt lt h2 tk2 et at' F2 N2 ltt
    have htv : StrsAre (strValues lt) (toldT n pl) := by rw [toldT, ← et]; exact at'
    generalize strValues lt = tv at htv N2
    clear et at'
    have ltt := allLt_of ltt
    simp only [AllLt, and_true] at ltt
    dsimp only
    walk_at "MINE to sub"
    (rename News _ _ _ _ => N3)
    obtain ⟨t8, h8⟩ := hwv.get 0 (Mine.W pl) (by unfold WS; rfl)
    refine item_litK (vs := wv) (v := .str (Mine.W pl) t8) (News.isList N3 (by k_mem)) (by decide) (by decide) (by exact h8) ?_
    dsimp only
    walk_at "MINE to call"
    k_dflt (refine' Con.use (con_pairs w mean mg mb Dt (W.listOf tv.toArray 0) tv 0 (toldT n pl) (Mine.W pl) _ _ 1 _ List.mem_cons_self rfl rfl htv (fun x hx => Nat.le_trans (hT2 x hx) (by decide)) (by omega) (by decide)) ?k1 ?k2 ?k3 ?k4 ?k5 ?k6 ?k7 ?k8 ?_; walk_at "MINE use")
    rintro v h4 tk4 news4 F4 N4 ⟨Da, av, na, rfl, rfl, lta, hav⟩
    have lta := allLt_of lta
    simp only [AllLt, and_true] at lta
    dsimp only
    walk_at "MINE to sub"
    refine item_litK (vs := wv) (v := .str (Mine.W pl) t8) (News.isList N4 (by k_mem)) (by decide) (by decide) (by exact h8) ?_
    dsimp only
    walk_at "MINE to call"
    k_dflt (refine' Con.use (con_pairs w mean mg mb lw (lst wv) wv _ (WS pl) (Mine.W pl) _ _ 0 _ ?hm rfl rfl hwv (WS_len pl) (by unfold WS; simp) (by decide)) ?k1 ?k2 ?k3 ?k4 ?k5 ?k6 ?k7 ?k8 ?_; walk_at "MINE use"; (case hm => k_mem))
    rintro v h5 tk5 news5 F5 N5 ⟨Db, bv, nb, rfl, rfl, ltb, hbv⟩
    have ltb := allLt_of ltb
    simp only [AllLt, and_true] at ltb
    dsimp only
    walk_at "MINE to add"
    have hpl1 : av.length + bv.length ≤ 1000 := by rw [hav.length, hbv.length, pairsT_length, pairsT_length]; unfold WS; simp; omega
    refine add_lists F5 N5 (News.isList N5 (by k_mem)) (News.isList N5 (by k_mem)) ?_ (by rw [sizeLine_eq]; omega)
    intro h6 F6 N6
    have hpv : StrsAre (av ++ bv) (pairsA n pl) := StrsAre.append' hav hbv
    have ltp : AllLt h5.objs.size _ := allLt_of (fun p hp => Heap.lt_size (N5 p hp).1)
    simp only [AllLt, and_true] at ltp
    replace N6 := cb_drop (news := [(h5.objs.size, W.listOf (av ++ bv).toArray 0), (I, oI), (lo, W.listOf ov.toArray k), (lw, lst wv), (D, lst [Value.int (n0 : Int) t0, Value.int (n1 : Int) t1, Value.int (n2 : Int) t2]), (L + 1 + 1 + 1 + 1 + 1, oF), (L + 1 + 1 + 1 + 1, oPr), (L + 1 + 1 + 1, oW), (L + 1 + 1, oPl)]) N6 (by kcj_all)
    dsimp only
    generalize h5.objs.size = Dp at N6 ltp ⊢
    clear F4 F5 N4 N5
    have hpl2 : (av ++ bv).length ≤ 100 := by rw [List.length_append, hav.length, hbv.length, pairsT_length, pairsT_length]; unfold WS; simp; omega
    have hpl3 : 1 ≤ (av ++ bv).length := by rw [List.length_append, hav.length, hbv.length, pairsT_length, pairsT_length]; unfold WS; simp
    generalize av ++ bv = pv at N6 hpv hpl2 hpl3
    obtain ⟨pv0, pvr, rfl⟩ : ∃ a r, pv = a :: r := by
      cases pv with
      | nil => simp at hpl3
      | cons a r => exact ⟨a, r, rfl⟩
    walk_at "MINE to comp"
    k_dflt (refine ListComp_str (F₀ := by k_asm) (by with_unfolding_all rfl) (by decide) (by rfl) (by decide) (by rfl) ?_)
    walk_at "MINE to call"
    refine star_seq (ws := pv0 :: pvr) (by k_asm) (by k_asm) List.mem_cons_self rfl rfl (Or.inl rfl) rfl (by rw [List.size_toArray, sizeLine_eq]; omega) ?_
    intro h7 F7 N7
    dsimp only
    walk_at "MINE to call"
    have CR := con_replace w mean mg mb (rowT pl) tr pv0 (pvr ++ []) (pairsA n pl) [(Dp, W.listOf (pv0 :: pvr).toArray 0), (I, oI), (lo, W.listOf ov.toArray k), (lw, lst wv), (D, lst [Value.int (n0 : Int) t0, Value.int (n1 : Int) t1, Value.int (n2 : Int) t2]), (L + 1 + 1 + 1 + 1 + 1, oF), (L + 1 + 1 + 1 + 1, oPr), (L + 1 + 1 + 1, oW), (L + 1 + 1, oPl)] (by rw [List.append_nil]; exact hpv) (by rw [← hpv.length]; exact hpl2) hT3
    rw [hT4] at CR
    k_dflt (refine' Con.use CR ?k1 ?k2 ?k3 ?k4 ?k5 ?k6 ?k7 ?k8 ?_; walk_at "MINE use")
    clear CR
    rintro v h8 tk8 news8 F8 N8 ⟨tx, rfl, rfl⟩
    dsimp only
    refine StrSrc.intro (by rfl) (by k_asm) (by k_asm) (octs_ascii n) (by show (octs n).toArray.size ≤ _; rw [List.size_toArray, octs_length, sizeLine_eq]; decide) ?_
    intro g8
    refine rest_U IsI (fun i => (((octs n).getD i 0 : Nat) : Int)) _ trivial ?_ ?_
    · intro j v I2 oI2 C oC D3 ys3 m₂ h tk E' hj hv hC2 hx2 F11 N11 off ne
      obtain ⟨c, u, hc, rfl⟩ := hv
      walk_at "MINE to builtin"
      refine P.ord_of_char ?_
      have ec : c = (octs n).getD j 0 := by
        have hc' : (octs n)[j]? = some c := by simpa using hc
        rw [List.getD_eq_getElem?_getD, hc']; rfl
      exact EltK.intro (by assumption) (by assumption) (fun p hp => hp) ⟨_, by rw [ec]⟩
    · intro ys3 hys3 D3 h tk FD ND O93
      dsimp only
      have hys4 : IntsAre ys3 ((octs n).map (fun (k : Nat) => (k : Int))) := ints_of_paired (by rw [octs_getD n] at hys3; exact hys3)
      walk_at "MINE to inplace"
      simp only [Off1, and_true] at O93
      have hIlo : @Ne Nat lo I := offI _ List.mem_cons_self
      have hov9 : ov.length ≤ 27 := by
        rw [hov.length]; exact octsAll_len _ i
      have hy9 : ys3.length = 9 := by rw [hys4.length, List.length_map, octs_length]
      refine iadd_lists (its := ov.toArray) (its2 := ys3.toArray) (n2 := ys3.length) (by k_asm) ND List.mem_cons_self (by rw [List.size_toArray, hy9]; decide) (by k_upd) (by rw [List.size_toArray, List.size_toArray]; omega) ?_
      intro hA FA NA
      dsimp only
      k_steps
      (rename Fr _ _ _ _ => FE)
      (rename News _ _ _ _ => NE)
      have e9 : ov.toArray ++ ys3.toArray = (ov ++ ys3).toArray := by simp
      rw [e9] at NE
      refine TurnK.next FE NE (news' := [(lo, W.listOf (ov ++ ys3).toArray (k + 1)), (lw, lst wv), (D, lst [Value.int (n0 : Int) t0, Value.int (n1 : Int) t1, Value.int (n2 : Int) t2]), (L + 1 + 1 + 1 + 1 + 1, oF), (L + 1 + 1 + 1 + 1, oPr), (L + 1 + 1 + 1, oW), (L + 1 + 1, oPl)]) (by kcj_all) ?_ ⟨ov ++ ys3, k + 1, _, _, _, rfl, ?_, updL1 (by decide) (by decide) (by decide) (by decide) (by decide) (by decide)⟩
      · intro p hp
        rcases List.mem_cons.mp hp with rfl | hp
        · exact hIlo
        · exact offI p (List.mem_cons_of_mem _ hp)
      · rw [octsAll_take hni]
        exact intsAre_append hov hys4
  · rintro h tk m' news' F9 N9 ⟨ov, k, u9, u8, u7, rfl, hov, rfl⟩
    dsimp only
    rw [show ([Value.int (n0 : Int) t0, Value.int (n1 : Int) t1, Value.int (n2 : Int) t2].toArray.size) = 3 from rfl, show [n0, n1, n2].take 3 = [n0, n1, n2] from rfl] at hov
    walk_at "MINE to builtin"
    refine iter_list (items := ov.toArray) (by k_asm) N9 ⟨_, (N9 _ List.mem_cons_self).1, rfl, k, rfl⟩ ?_
    intro It h1 oIt F1 N1 ltI hIt
    have ltI := allLt_of ltI
    simp only [AllLt, and_true] at ltI
    dsimp only
    walk_at "MINE to fors"
    (rename News _ _ _ _ => NE)
    (rename Fr _ _ _ _ => FE)
    (rename _ = Data.cell (some (Value.int 1 _)) => dP)
    (rename _ ∧ _ ∧ _ ∧ _ ∧ _ ∧ _ ∧ _ ∧ _ ∧ _ ∧ _ ∧ _ => lD)
    refine hk D lo It _ n0 n1 n2 t0 t1 t2 _ _ ov _ k _ oIt _ _ _ _ _ _ hn0 hn1 hn2 hov hIt ?_ dP ⟨lD.2.2.2.1, lD.2.2.2.2.1, lD.2.2.2.2.2.2.1, lD.2.2.2.2.2.2.2.1, lD.2.2.2.2.2.2.2.2.1⟩ ⟨ltI.1, ltI.2.2.1, ltI.2.2.2.1, ltI.2.2.2.2.1⟩ ⟨hlo.2.1, hlo.2.2.1, hlo.2.2.2.1⟩ ⟨hD.1, hD.2.1⟩ (Fr.conv FE (norm2 _ rfl rfl rfl rfl)) (cb_drop NE (by kcj_all))
    unfold ways0
    simp only [List.replicate]
    iterate 25 (refine IntsAre.cons _ _ ?_)
    exact IntsAre.nil

theorem at_LawC0 : True := by
  w_top off
  exact trivial
def bitsD (n : Nat) : List Nat := (List.range 9).map (fun i => if n.testBit (8 - i) then 1 else 0)
theorem encF_bits (n : Nat) : encF (bitsD n) = (octs n).map (fun (k : Nat) => (k : Int)) := by
  unfold bitsD octs
  rw [show List.range 9 = [0, 1, 2, 3, 4, 5, 6, 7, 8] from rfl]
  simp [encF]
theorem bitsD_length (n : Nat) : (bitsD n).length = 9 := by unfold bitsD; simp
theorem bitsD_lt (n : Nat) : ∀ d ∈ bitsD n, d < 64 := by
  intro d hd
  unfold bitsD at hd
  obtain ⟨i, _, rfl⟩ := List.mem_map.mp hd
  split <;> omega
/-- what the second loop computes of the numbers so far -/
def stP (ns : List Nat) : Nat := ns.foldl (fun p n => p * valF (bitsD n)) 1
def stW (ns : List Nat) : Nat := ns.foldl plainN 1
def stY (ns : List Nat) : List Int := ns.foldl (fun y n => waysF y (plcN n)) ways0
/-- the law of the numbers: what the walk needs of it -/
def NumLaw : Prop := ∀ ns : List Nat, ns.length ≤ 3 → (∀ n ∈ ns, n < 512) →
  stP ns < 64 ^ 25 ∧ stY ns = (List.range 25).map (fun k => ((stP ns / 64 ^ k % 64 : Nat) : Int)) ∧ stW ns < 2 ^ 25 ∧ (ns.length ≤ 2 → stW ns < 2 ^ 17) ∧ ∀ k, k < 25 → (stW ns).testBit k = decide (stP ns / 64 ^ k % 64 % 2 = 1)
theorem stP_take {ns : List Nat} {i n : Nat} (h : ns[i]? = some n) : stP (ns.take (i + 1)) = stP (ns.take i) * valF (bitsD n) := by
  unfold stP
  rw [List.take_add_one, h, Option.toList_some, List.foldl_append]; rfl
theorem stW_take {ns : List Nat} {i n : Nat} (h : ns[i]? = some n) : stW (ns.take (i + 1)) = plainN (stW (ns.take i)) n := by
  unfold stW
  rw [List.take_add_one, h, Option.toList_some, List.foldl_append]; rfl
theorem stY_take {ns : List Nat} {i n : Nat} (h : ns[i]? = some n) : stY (ns.take (i + 1)) = waysF (stY (ns.take i)) (plcN n) := by
  unfold stY
  rw [List.take_add_one, h, Option.toList_some, List.foldl_append]; rfl
theorem stY_length (ns : List Nat) : (stY ns).length = 25 := by
  unfold stY
  have h : ∀ (l : List Nat) (y : List Int), y.length = 25 → (l.foldl (fun y n => waysF y (plcN n)) y).length = 25 := by
    intro l
    induction l with
    | nil => exact fun y h => h
    | cons a r ih => intro y _; rw [List.foldl_cons]; exact ih _ (by unfold waysF; simp)
  exact h ns ways0 (by decide)
theorem octsAll_at {n0 n1 n2 i n : Nat} (h : [n0, n1, n2][i]? = some n) {j : Nat} {x : Int} (hx : (encF (bitsD n))[j]? = some x) : (octsAll [n0, n1, n2])[9 * i + j]? = some x := by
  rw [encF_bits] at hx
  have hj : j < 9 := by
    rcases Nat.lt_or_ge j 9 with q | q
    · exact q
    · rw [List.getElem?_eq_none (by rw [List.length_map, octs_length]; exact q)] at hx; cases hx
  have e : octsAll [n0, n1, n2] = (octs n0).map (fun (k : Nat) => (k : Int)) ++ ((octs n1).map (fun (k : Nat) => (k : Int)) ++ (octs n2).map (fun (k : Nat) => (k : Int))) := by
    unfold octsAll; simp [List.flatMap_cons]
  rw [e]
  have l0 : ((octs n0).map (fun (k : Nat) => (k : Int))).length = 9 := by rw [List.length_map, octs_length]
  have l1 : ((octs n1).map (fun (k : Nat) => (k : Int))).length = 9 := by rw [List.length_map, octs_length]
  have hi3 : i < 3 := by
    rcases Nat.lt_or_ge i 3 with q | q
    · exact q
    · rw [List.getElem?_eq_none (by exact q)] at h; cases h
  have hi : i = 0 ∨ i = 1 ∨ i = 2 := by omega
  rcases hi with rfl | rfl | rfl
  · cases h
    rw [List.getElem?_append_left (by rw [l0]; omega), show 9 * 0 + j = j by omega]; exact hx
  · cases h
    rw [List.getElem?_append_right (by rw [l0]; omega), l0, List.getElem?_append_left (by rw [l1]; omega), show 9 * 1 + j - 9 = j by omega]; exact hx
  · cases h
    rw [List.getElem?_append_right (by rw [l0]; omega), l0, List.getElem?_append_right (by rw [l1]; omega), l1, show 9 * 2 + j - 9 - 9 = j by omega]; exact hx

theorem at_LawDef2 : True := by
  w_top off
  exact trivial
def after3 : List Stmt → List Stmt
  | _ :: _ :: _ :: r => r
  | _ => []
def after2 : List Stmt → List Stmt
  | _ :: _ :: r => r
  | _ => []
def after1 : List Stmt → List Stmt
  | _ :: r => r
  | _ => []
/-- the second loop's turn: from figures on; from the first if on; from the second if on -/
noncomputable def lawTurn2b : List Stmt := after3 lawTurn2
noncomputable def lawTurn2c : List Stmt := after2 lawTurn2b
noncomputable def lawTurn2d : List Stmt := after1 lawTurn2c
/-- the frame of the second loop's turn -/
def mTurn (n : Nat) (tn tw : Tok) (W : Nat) (dy It D : Addr) (u8 u7 : Str → Option Value) : Str → Option Value :=
  fun y => if y = Str.ofString "x" then some (.int (n : Int) tn) else if y = Str.ofString "written" then u8 y else if y = Str.ofString "ways" then some (.ref dy) else if y = Str.ofString "without" then some (.int (W : Int) tw) else if y = Str.ofString "tape" then some (.ref It) else if y = Str.ofString "numbers" then some (.ref D) else u7 y

theorem at_TurnA : True := by
  w_top off
  exact trivial
/-- what stands behind the turn's first three statements -/
def TurnAK (w : World) (L fa : Addr) (cd : Value) (h₀ : Heap) (s : Shared) (I lo It D : Addr) (oI oLo oD oF : Obj) (n : Nat) (tn : Tok) (p wo j : Nat) (ys : List Int) (Q : Flow → Shared → Prop) (E : Value → Shared → Prop) : Prop :=
  ∀ (dy : Addr) (yv : List Value) (oIt oPr : Obj) (tw tp : Tok) (u8 u7 : Str → Option Value) (h : Heap) (tk : Nat),
    IterAt oIt lo (j + 9) → IntsAre yv (waysF ys (plcN n)) → oPr.data = .cell (some (.int (p * valF (bitsD n) : Nat) tp)) →
    (@LT.lt Nat _ I dy ∧ @LT.lt Nat _ It dy ∧ @LT.lt Nat _ lo dy ∧ @LT.lt Nat _ D dy ∧ @LT.lt Nat _ (L + 1 + 1 + 1 + 1 + 1) dy ∧ @LT.lt Nat _ (L + 1 + 1 + 1 + 1) dy) →
    Fr h₀ L h (mTurn n tn tw (plainN wo n) dy It D u8 u7) →
    News h₀ L h [(dy, lst yv), (I, oI), (It, oIt), (lo, oLo), (D, oD), (L + 1 + 1 + 1 + 1 + 1, oF), (L + 1 + 1 + 1 + 1, oPr)] →
    wpAny (model Challenge.rw_ph0017_01.row.prog w) (callerA.deeper (lawEnv L fa cd)) (execs lawTurn2b (lawEnv L fa cd)) Q E { s with heap := h, toks := tk }
theorem updT {a a' b b' c d : Value} {n : Nat} {tn : Tok} {W : Nat} {tw : Tok} {dy It D : Addr} {u8 u7 : Str → Option Value} (e1 : a' = .ref dy) (e2 : b' = .int (W : Int) tw) (e3 : c = .ref It) (e4 : d = .ref D) :
    (fun y => if y = Str.ofString "ways" then some a' else if y = Str.ofString "without" then some b' else if y = Str.ofString "x" then some (.int (n : Int) tn) else if y = Str.ofString "written" then u8 y else if y = Str.ofString "ways" then some a else if y = Str.ofString "without" then some b else if y = Str.ofString "tape" then some c else if y = Str.ofString "numbers" then some d else u7 y) = mTurn n tn tw W dy It D u8 u7 := by
  subst e1 e2 e3 e4
  unfold mTurn
  have h1 : Str.ofString "ways" ≠ Str.ofString "x" := by decide
  have h2 : Str.ofString "ways" ≠ Str.ofString "written" := by decide
  have h3 : Str.ofString "without" ≠ Str.ofString "x" := by decide
  have h4 : Str.ofString "without" ≠ Str.ofString "written" := by decide
  have h5 : Str.ofString "without" ≠ Str.ofString "ways" := by decide
  funext y
  by_cases e1 : y = Str.ofString "ways"
  · subst e1; simp only [if_true, if_neg h1, if_neg h2]
  · by_cases e2 : y = Str.ofString "without"
    · subst e2; simp only [if_true, if_neg h3, if_neg h4, if_neg h5]
    · simp only [if_neg e1, if_neg e2]
theorem turn_A (w : World) (mean mg mb) (L fa : Addr) (cd : Value) (h₀ : Heap) (s : Shared) (I lo It D dy : Addr) (oI oIt oPr oD oF : Obj) (n : Nat) (tn : Tok) (p wo j : Nat) (ys : List Int) (yv : List Value) (ny k : Nat) (ov : List Value) (os : List Int) (tw tp : Tok) (u8 u7 : Str → Option Value) (h : Heap) (tk : Nat) (Q : Flow → Shared → Prop) (E : Value → Shared → Prop)
    (B : Below callerA h₀ [] h₀) (X : (hd.heap_39 w.params).In h₀) (T : Top hd.view_39 loo mean mg mb h₀)
    (hE : PassesOwn (model Challenge.rw_ph0017_01.row.prog w) (callerA.deeper (lawEnv L fa cd)) (lawEnv L fa cd) E)
    (hn : n < 512) (hp : p < 64 ^ 25) (hW : wo < 2 ^ 17) (hys : ys.length = 25)
    (hov : IntsAre ov os) (hat : ∀ i x, (encF (bitsD n))[i]? = some x → os[j + i]? = some x)
    (hIt : IterAt oIt lo j) (hyv : IntsAre yv ys) (dP : oPr.data = .cell (some (.int (p : Nat) tp)))
    (hdy : @Ne Nat It dy ∧ @Ne Nat lo dy ∧ @Ne Nat D dy ∧ @Ne Nat (L + 1 + 1 + 1 + 1 + 1) dy ∧ @Ne Nat (L + 1 + 1 + 1 + 1) dy)
    (hiI : @Ne Nat dy I ∧ @Ne Nat It I ∧ @Ne Nat lo I ∧ @Ne Nat D I ∧ @Ne Nat (L + 1 + 1 + 1 + 1 + 1) I ∧ @Ne Nat (L + 1 + 1 + 1 + 1) I)
    (ltI : @LT.lt Nat _ lo It ∧ @LT.lt Nat _ D It ∧ @LT.lt Nat _ (L + 1 + 1 + 1 + 1 + 1) It ∧ @LT.lt Nat _ (L + 1 + 1 + 1 + 1) It)
    (hlo : @LT.lt Nat _ D lo ∧ @LT.lt Nat _ (L + 1 + 1 + 1 + 1 + 1) lo ∧ @LT.lt Nat _ (L + 1 + 1 + 1 + 1) lo)
    (hD : @LT.lt Nat _ (L + 1 + 1 + 1 + 1 + 1) D ∧ @LT.lt Nat _ (L + 1 + 1 + 1 + 1) D)
    (F9 : Fr h₀ L h (mTurn n tn tw wo dy It D u8 u7))
    (N9 : News h₀ L h [(I, oI), (dy, W.listOf yv.toArray ny), (It, oIt), (lo, W.listOf ov.toArray k), (D, oD), (L + 1 + 1 + 1 + 1 + 1, oF), (L + 1 + 1 + 1 + 1, oPr)])
    (hk : TurnAK w L fa cd h₀ s I lo It D oI (W.listOf ov.toArray k) oD oF n tn p wo j ys Q E) :
    wpAny (model Challenge.rw_ph0017_01.row.prog w) (callerA.deeper (lawEnv L fa cd)) (execs lawTurn2 (lawEnv L fa cd)) Q E { s with heap := h, toks := tk } := by
  revert X; k_fill; intro X
  dsimp only [lawEnv, lawScope, scopeOf, lawTurn2, lawLoop2, after5, lawLoop1, after6, headS, lawBody, lawStmt, lastS, bodyOf, Challenge.pw_ph0017_01]
  unfold mTurn at F9
  walk_at "MINE to lname"
  k_dflt (refine ldnCN (by k_asm) (by rfl) (by k_mem) dP ?_)
  walk_at "MINE to call"
  k_dflt (refine' Con.use (con_parse w mean mg mb It lo oIt (W.listOf ov.toArray k) k _ ov os j (bitsD n) _ ?hU hIt ?hl rfl rfl hov (bitsD_lt n) (by rw [← List.length_pos_iff, bitsD_length]; decide) (by rw [bitsD_length]; decide) hat) ?k1 ?k2 ?k3 ?k4 ?k5 ?k6 ?k7 ?k8 ?_; walk_at "MINE use"; (case hU => k_updF); (case hl => intro o; k_mem))
  rintro v h1 tk1 news1 F1 N1 ⟨tv, oIt2, rfl, rfl, hIt2⟩
  rw [bitsD_length] at hIt2
  (try dsimp only at N1)
  dsimp only
  walk_at "MINE to inplace"
  refine imul_int ?_ (IntMulOk.of_right (intBits_le_iff.mpr ?_))
  · dsimp only
    walk_at "MINE to call"
    k_dflt (refine' Con.use (con_plain w mean mg mb (wo : Int) (n : Int) _ _ _ (by omega) (by omega) (by omega) (by omega)) ?k1 ?k2 ?k3 ?k4 ?k5 ?k6 ?k7 ?k8 ?_; walk_at "MINE use")
    rintro v h2 tk2 news2 F2 N2 ⟨t2, rfl, rfl⟩
    simp only [Int.toNat_natCast]
    (try dsimp only)
    walk_at "MINE to call"
    k_dflt (refine' Con.use (con_places w mean mg mb (n : Int) _ _ (by omega) (by omega)) ?k1 ?k2 ?k3 ?k4 ?k5 ?k6 ?k7 ?k8 ?_; walk_at "MINE use")
    rintro v h3 tk3 news3 F3 N3 ⟨l, pv, rfl, rfl, off3, hpv⟩
    rw [Int.toNat_natCast] at hpv
    (try dsimp only)
    walk_at "MINE to call"
    k_dflt (refine' Con.use (con_ways w mean mg mb dy l (W.listOf yv.toArray ny) yv pv ny ys (plcN n) _ ?hm rfl rfl hyv hys List.mem_cons_self hpv ?hp ?hq) ?k1 ?k2 ?k3 ?k4 ?k5 ?k6 ?k7 ?k8 ?_; walk_at "MINE use"; (case hm => k_mem))
    · intro q hq
      exact List.mem_range.mp (List.mem_filter.mp hq).1
    · exact Nat.le_trans (List.length_filter_le _ _) (by rw [List.length_range]; exact Nat.le_refl _)
    rintro v h4 tk4 news4 F4 N4 ⟨dz, zv, rfl, rfl, ltz, hzv⟩
    (try dsimp only)
    walk_at "MINE to ecomp"
    have ltz := allLt_of ltz
    simp only [AllLt, and_true] at ltz
    exact hk dz zv oIt2 _ _ _ u8 u7 _ _ hIt2 hzv (by assumption) ⟨ltz.2.1, ltz.2.2.2.1, ltz.2.2.2.2.1, ltz.2.2.2.2.2.1, ltz.2.2.2.2.2.2.1, ltz.2.2.2.2.2.2.2⟩ (Fr.conv (by assumption) (updT rfl rfl rfl rfl)) (cb_drop (by assumption) (by kcj_all))
  · rw [Int.natAbs_natCast]
    exact Nat.lt_of_lt_of_le (valF_lt _ (bitsD_lt n)) (by rw [bitsD_length]; decide)

theorem at_TurnB : True := by
  w_top off
  exact trivial
def figL (p : Nat) : List Int := (List.range 25).map (fun k => ((p / 64 ^ k % 64 : Nat) : Int))
/-- the figures from the highest down -/
def hiL (p : Nat) : List Nat := (List.range 25).map (fun i => p / 64 ^ (24 - i) % 64)
theorem fig_elt (p i : Nat) : ((p : Int).fdiv (64 ^ (0 + (i : Int)).toNat)).fmod 64 = ((p / 64 ^ i % 64 : Nat) : Int) := by
  have e1 : (0 + (i : Int)).toNat = i := by omega
  rw [e1, show ((64 : Int) ^ i) = ((64 ^ i : Nat) : Int) from by rw [Int.natCast_pow]; rfl, Int.fdiv_eq_ediv_of_nonneg _ (Int.natCast_nonneg _), Int.fmod_eq_emod_of_nonneg _ (by decide), ← Int.natCast_ediv]
  omega
theorem pow64_ne (i : Nat) (h : (64 : Int) ^ i = 0) : False := by
  have : (64 : Int) ^ i ≠ 0 := Int.pow_ne_zero (by decide)
  exact this h
/-- the frame from written on -/
def mTurnW (n : Nat) (tn tw : Tok) (W : Nat) (dy It D Dw : Addr) (u7 : Str → Option Value) : Str → Option Value :=
  fun y => if y = Str.ofString "x" then some (.int (n : Int) tn) else if y = Str.ofString "written" then some (.ref Dw) else if y = Str.ofString "ways" then some (.ref dy) else if y = Str.ofString "without" then some (.int (W : Int) tw) else if y = Str.ofString "tape" then some (.ref It) else if y = Str.ofString "numbers" then some (.ref D) else u7 y
def TurnBK (w : World) (L fa : Addr) (cd : Value) (h₀ : Heap) (s : Shared) (I lo It D dy : Addr) (oI oIt oPr oD oLo : Obj) (n : Nat) (tn : Tok) (p wo : Nat) (yv : List Value) (tw : Tok) (u7 : Str → Option Value) (Q : Flow → Shared → Prop) (E : Value → Shared → Prop) : Prop :=
  ∀ (Df Dw : Addr) (fv wv : List Value) (kw : Nat) (oF : Obj) (h : Heap) (tk : Nat),
    IntsAre fv (figL p) → IntsAre wv (encF (hiL p)) → oF.data = .cell (some (.ref Df)) →
    (@LT.lt Nat _ Df Dw ∧ @LT.lt Nat _ dy Dw ∧ @LT.lt Nat _ I Dw ∧ @LT.lt Nat _ It Dw ∧ @LT.lt Nat _ lo Dw ∧ @LT.lt Nat _ D Dw ∧ @LT.lt Nat _ (L + 1 + 1 + 1 + 1 + 1) Dw ∧ @LT.lt Nat _ (L + 1 + 1 + 1 + 1) Dw) →
    (@Ne Nat Df dy ∧ @Ne Nat Df I ∧ @Ne Nat Df It ∧ @Ne Nat Df lo ∧ @Ne Nat Df D ∧ @Ne Nat Df (L + 1 + 1 + 1 + 1 + 1) ∧ @Ne Nat Df (L + 1 + 1 + 1 + 1)) →
    Fr h₀ L h (mTurnW n tn tw wo dy It D Dw u7) →
    News h₀ L h [(Dw, W.listOf wv.toArray kw), (Df, lst fv), (dy, lst yv), (I, oI), (It, oIt), (lo, oLo), (D, oD), (L + 1 + 1 + 1 + 1 + 1, oF), (L + 1 + 1 + 1 + 1, oPr)] →
    wpAny (model Challenge.rw_ph0017_01.row.prog w) (callerA.deeper (lawEnv L fa cd)) (execs lawTurn2c (lawEnv L fa cd)) Q E { s with heap := h, toks := tk }
theorem enc_hi (p : Nat) : (List.range 24).map (fun k => ((64 + p / 64 ^ (24 - k) % 64 : Nat) : Int)) ++ (figL p).take 1 = encF (hiL p) := by
  unfold hiL figL
  rw [show List.range 25 = [0, 1, 2, 3, 4, 5, 6, 7, 8, 9, 10, 11, 12, 13, 14, 15, 16, 17, 18, 19, 20, 21, 22, 23, 24] from rfl, show List.range 24 = [0, 1, 2, 3, 4, 5, 6, 7, 8, 9, 10, 11, 12, 13, 14, 15, 16, 17, 18, 19, 20, 21, 22, 23] from rfl]
  simp only [List.map_cons, List.map_nil, encF, List.take, List.cons_append, List.nil_append, Nat.sub_self]
theorem figL_length (p : Nat) : (figL p).length = 25 := by unfold figL; simp
theorem updW {n : Nat} {tn tw : Tok} {W : Nat} {dy It D Dw : Addr} {u8 u7 : Str → Option Value} :
    (fun y => if y = Str.ofString "written" then some (Value.ref Dw) else if y = Str.ofString "x" then some (.int (n : Int) tn) else if y = Str.ofString "written" then u8 y else if y = Str.ofString "ways" then some (.ref dy) else if y = Str.ofString "without" then some (.int (W : Int) tw) else if y = Str.ofString "tape" then some (.ref It) else if y = Str.ofString "numbers" then some (.ref D) else u7 y) = mTurnW n tn tw W dy It D Dw u7 := by
  unfold mTurnW
  have h1 : Str.ofString "written" ≠ Str.ofString "x" := by decide
  funext y
  by_cases e1 : y = Str.ofString "written"
  · subst e1; simp only [if_true, if_neg h1]
  · simp only [if_neg e1]
theorem turn_B (w : World) (mean mg mb) (L fa : Addr) (cd : Value) (h₀ : Heap) (s : Shared) (I lo It D dy : Addr) (oI oIt oPr oD oF oLo : Obj) (fv : Option Value) (n : Nat) (tn : Tok) (p wo : Nat) (yv : List Value) (tw tp : Tok) (u8 u7 : Str → Option Value) (h : Heap) (tk : Nat) (Q : Flow → Shared → Prop) (E : Value → Shared → Prop)
    (B : Below callerA h₀ [] h₀) (X : (hd.heap_39 w.params).In h₀) (T : Top hd.view_39 loo mean mg mb h₀)
    (hE : PassesOwn (model Challenge.rw_ph0017_01.row.prog w) (callerA.deeper (lawEnv L fa cd)) (lawEnv L fa cd) E)
    (hp : p < 64 ^ 25) (dP : oPr.data = .cell (some (.int (p : Nat) tp))) (dF : oF.data = .cell fv)
    (ltd : @LT.lt Nat _ I dy ∧ @LT.lt Nat _ It dy ∧ @LT.lt Nat _ lo dy ∧ @LT.lt Nat _ D dy ∧ @LT.lt Nat _ (L + 1 + 1 + 1 + 1 + 1) dy ∧ @LT.lt Nat _ (L + 1 + 1 + 1 + 1) dy)
    (hiI : @Ne Nat It I ∧ @Ne Nat lo I ∧ @Ne Nat D I ∧ @Ne Nat (L + 1 + 1 + 1 + 1 + 1) I ∧ @Ne Nat (L + 1 + 1 + 1 + 1) I)
    (ltI : @LT.lt Nat _ lo It ∧ @LT.lt Nat _ D It ∧ @LT.lt Nat _ (L + 1 + 1 + 1 + 1 + 1) It ∧ @LT.lt Nat _ (L + 1 + 1 + 1 + 1) It)
    (hlo : @LT.lt Nat _ D lo ∧ @LT.lt Nat _ (L + 1 + 1 + 1 + 1 + 1) lo ∧ @LT.lt Nat _ (L + 1 + 1 + 1 + 1) lo)
    (hD : @LT.lt Nat _ (L + 1 + 1 + 1 + 1 + 1) D ∧ @LT.lt Nat _ (L + 1 + 1 + 1 + 1) D)
    (F9 : Fr h₀ L h (mTurn n tn tw wo dy It D u8 u7))
    (N9 : News h₀ L h [(dy, lst yv), (I, oI), (It, oIt), (lo, oLo), (D, oD), (L + 1 + 1 + 1 + 1 + 1, oF), (L + 1 + 1 + 1 + 1, oPr)])
    (hk : TurnBK w L fa cd h₀ s I lo It D dy oI oIt oPr oD oLo n tn p wo yv tw u7 Q E) :
    wpAny (model Challenge.rw_ph0017_01.row.prog w) (callerA.deeper (lawEnv L fa cd)) (execs lawTurn2b (lawEnv L fa cd)) Q E { s with heap := h, toks := tk } := by
  revert X; k_fill; intro X
  dsimp only [lawEnv, lawScope, scopeOf, lawTurn2b, after3, lawTurn2, lawLoop2, after5, lawLoop1, after6, headS, lawBody, lawStmt, lastS, bodyOf, Challenge.pw_ph0017_01]
  unfold mTurn at F9
  walk_at "MINE to comp"
  walk_at "MINE comp U"
  refine CompSrc.range (by rfl) (by k_asm) (by k_asm) (by assumption) (by first | decide | rfl) (by first | rfl | decide) (by rw [sizeLine_eq]; decide) ?_
  intro g11
  refine rest_U IsI (fun k => ((p / 64 ^ k % 64 : Nat) : Int)) _ trivial ?_ ?_
  · intro i v I2 oI2 C oC D2 ys m₂ h tk E' hi hv hC2 hx2 F11 N11 off ne
    obtain ⟨t9, rfl⟩ := hv
    have hi9 : i < 25 := hi
    k_steps
    · exact (pow64_ne _ (by assumption)).elim
    · exact EltK.intro (by assumption) (by assumption) (fun p hp => hp) ⟨_, congrArg (Value.int · _) (fig_elt p i)⟩
  · intro fvs hys Df h tk FD ND O9
    have hfv : IntsAre fvs (figL p) := ints_of_paired hys
    simp only [Off1, and_true] at O9
    clear hys
    (try dsimp only)
    walk_at "MINE to comp"
    (rename _ = Data.cell (some (Value.ref Df)) => dF2)
    rename Obj => oF2
    walk_at "MINE comp U"
    refine CompSrc.range (by rfl) (by k_asm) (by k_asm) (by assumption) (by first | decide | rfl) (by first | rfl | decide) (by rw [sizeLine_eq]; decide) ?_
    intro g12
    refine rest_U IsI (fun k => ((64 + p / 64 ^ (24 - k) % 64 : Nat) : Int)) _ trivial ?_ ?_
    · intro i v I2 oI2 C oC D2 ys m₂ h tk E' hi hv hC2 hx2 F11 N11 off ne
      obtain ⟨t9, rfl⟩ := hv
      have hi9 : i < 24 := hi
      walk_at "MINE to sub"
      have ei : (24 - (0 + (i : Int))).toNat = 24 - i := by omega
      obtain ⟨t8, h8⟩ := hfv.get (24 - i) ((p / 64 ^ (24 - i) % 64 : Nat) : Int) (by unfold figL; rw [List.getElem?_map, List.getElem?_range (by omega)]; rfl)
      (rename News _ _ _ _ => N8)
      refine item_litK (vs := fvs) (News.isList N8 (by k_mem)) (by omega) (by omega) (by rw [ei]; exact h8) ?_
      (try dsimp only)
      k_steps
      exact EltK.intro (by assumption) (by assumption) (fun p hp => hp) ⟨_, congrArg (Value.int · _) (by omega)⟩
    · intro ws hws Dx h tk FX NX OX
      (try dsimp only)
      have hws2 := ints_of_paired hws
      clear hws
      walk_at "MINE to sub"
      (rename News _ _ _ _ => N8)
      k_dflt (refine' kmk_slice_ints (ns := figL p) (vs := fvs) (ms := (figL p).take 1) (c := 1) ?F N8 (News.isList N8 ?hl) IsPart.none (IsPart.int 1 _) hfv (kmk_upto hfv (by decide)) ?c ?_ ?s ?t ?z; (case F => k_asm); (case hl => k_mem); (case c => (rw [List.length_take, figL_length]; rfl)); (case s => with_unfolding_all rfl); (case t => kmk_pure); (case z => (rw [List.size_toArray, hfv.length, figL_length, sizeLine_eq]; decide)))
      intro Ds zs h3 F3 N3 ltS hz hc hle
      (try dsimp only)
      walk_at "MINE to add"
      refine add_lists_ints F3 N3 (News.isList N3 (by k_mem)) (News.isList N3 (by k_mem)) hws2 hz ?_ (by simp only [List.length_map, List.length_range, hc]; rw [sizeLine_eq]; decide)
      intro h4 F4 N4 hwv
      have ltw : AllLt h3.objs.size _ := allLt_of (fun p hp => Heap.lt_size (N3 p hp).1)
      simp only [AllLt, and_true] at ltw
      (try dsimp only)
      walk_at "MINE to eif"
      have hwv2 : IntsAre (ws ++ zs) (encF (hiL p)) := by rw [← enc_hi]; exact hwv
      exact hk Df h3.objs.size fvs (ws ++ zs) 0 oF2 _ _ hfv hwv2 dF2 ⟨ltw.2.2.1, ltw.2.2.2.1, ltw.2.2.2.2.1, ltw.2.2.2.2.2.1, ltw.2.2.2.2.2.2.1, ltw.2.2.2.2.2.2.2.1, ltw.2.2.2.2.2.2.2.2.1, ltw.2.2.2.2.2.2.2.2.2⟩
        ⟨Ne.symm O9.1, Ne.symm O9.2.1, Ne.symm O9.2.2.1, Ne.symm O9.2.2.2.1, Ne.symm O9.2.2.2.2.1, Ne.symm O9.2.2.2.2.2.1, Ne.symm O9.2.2.2.2.2.2⟩ (Fr.conv (by assumption) updW) (cb_drop (by assumption) (by kcj_all))

theorem at_TurnC : True := by
  w_top off
  exact trivial
theorem val_digits : ∀ (n p : Nat), valF ((List.range n).map (fun i => p / 64 ^ (n - 1 - i) % 64)) = p % 64 ^ n := by
  intro n
  induction n with
  | zero => intro p; rw [Nat.pow_zero, Nat.mod_one]; rfl
  | succ n ih =>
    intro p
    have e : (List.range (n + 1)).map (fun i => p / 64 ^ (n + 1 - 1 - i) % 64) = (List.range n).map (fun i => (p / 64) / 64 ^ (n - 1 - i) % 64) ++ [p % 64] := by
      rw [List.range_succ, List.map_append]
      congr 1
      · refine List.map_congr_left (fun i hi => ?_)
        have hi := List.mem_range.mp hi
        rw [Nat.div_div_eq_div_mul, show n + 1 - 1 - i = (n - 1 - i) + 1 by omega, Nat.pow_succ, Nat.mul_comm 64]
      · rw [List.map_cons, List.map_nil, show n + 1 - 1 - n = 0 by omega, Nat.pow_zero, Nat.div_one]
    rw [e, valF_snoc, ih]
    have h := Nat.mod_mul (x := p) (a := 64) (b := 64 ^ n)
    rw [Nat.pow_succ, Nat.mul_comm (64 ^ n) 64, h]
    omega
theorem val_hi {p : Nat} (h : p < 64 ^ 25) : valF (hiL p) = p := by
  have := val_digits 25 p
  rw [Nat.mod_eq_of_lt h] at this
  exact this
theorem hiL_length (p : Nat) : (hiL p).length = 25 := by unfold hiL; simp
theorem hiL_lt (p : Nat) : ∀ d ∈ hiL p, d < 64 := by
  intro d hd
  unfold hiL at hd
  obtain ⟨i, _, rfl⟩ := List.mem_map.mp hd
  exact Nat.mod_lt _ (by decide)
def TurnCK (w : World) (L fa : Addr) (cd : Value) (h₀ : Heap) (s : Shared) (I lo It D dy Df Dw : Addr) (oI oIt oPr oD oF oLo : Obj) (n : Nat) (tn : Tok) (wo : Nat) (fv yv : List Value) (tw : Tok) (u7 : Str → Option Value) (Q : Flow → Shared → Prop) (E : Value → Shared → Prop) : Prop :=
  ∀ (h : Heap) (tk : Nat), Fr h₀ L h (mTurnW n tn tw wo dy It D Dw u7) →
    News h₀ L h [(Df, lst fv), (dy, lst yv), (I, oI), (It, oIt), (lo, oLo), (D, oD), (L + 1 + 1 + 1 + 1 + 1, oF), (L + 1 + 1 + 1 + 1, oPr)] →
    wpAny (model Challenge.rw_ph0017_01.row.prog w) (callerA.deeper (lawEnv L fa cd)) (execs lawTurn2d (lawEnv L fa cd)) Q E { s with heap := h, toks := tk }
theorem turn_C (w : World) (mean mg mb) (L fa : Addr) (cd : Value) (h₀ : Heap) (s : Shared) (I lo It D dy Df Dw : Addr) (oI oIt oPr oD oF oLo : Obj) (n : Nat) (tn : Tok) (p wo : Nat) (fv yv wv : List Value) (kw : Nat) (tw tp : Tok) (u7 : Str → Option Value) (h : Heap) (tk : Nat) (Q : Flow → Shared → Prop) (E : Value → Shared → Prop)
    (B : Below callerA h₀ [] h₀) (X : (hd.heap_39 w.params).In h₀) (T : Top hd.view_39 loo mean mg mb h₀)
    (hE : PassesOwn (model Challenge.rw_ph0017_01.row.prog w) (callerA.deeper (lawEnv L fa cd)) (lawEnv L fa cd) E)
    (hp : p < 64 ^ 25) (dP : oPr.data = .cell (some (.int (p : Nat) tp))) (dF : oF.data = .cell (some (.ref Df)))
    (hfv : IntsAre fv (figL p)) (hyv : IntsAre yv (figL p)) (hwv : IntsAre wv (encF (hiL p)))
    (ltw : @LT.lt Nat _ Df Dw ∧ @LT.lt Nat _ dy Dw ∧ @LT.lt Nat _ I Dw ∧ @LT.lt Nat _ It Dw ∧ @LT.lt Nat _ lo Dw ∧ @LT.lt Nat _ D Dw ∧ @LT.lt Nat _ (L + 1 + 1 + 1 + 1 + 1) Dw ∧ @LT.lt Nat _ (L + 1 + 1 + 1 + 1) Dw)
    (nef : @Ne Nat Df dy ∧ @Ne Nat Df I ∧ @Ne Nat Df It ∧ @Ne Nat Df lo ∧ @Ne Nat Df D ∧ @Ne Nat Df (L + 1 + 1 + 1 + 1 + 1) ∧ @Ne Nat Df (L + 1 + 1 + 1 + 1))
    (ltd : @LT.lt Nat _ I dy ∧ @LT.lt Nat _ It dy ∧ @LT.lt Nat _ lo dy ∧ @LT.lt Nat _ D dy ∧ @LT.lt Nat _ (L + 1 + 1 + 1 + 1 + 1) dy ∧ @LT.lt Nat _ (L + 1 + 1 + 1 + 1) dy)
    (hiI : @Ne Nat It I ∧ @Ne Nat lo I ∧ @Ne Nat D I ∧ @Ne Nat (L + 1 + 1 + 1 + 1 + 1) I ∧ @Ne Nat (L + 1 + 1 + 1 + 1) I)
    (ltI : @LT.lt Nat _ lo It ∧ @LT.lt Nat _ D It ∧ @LT.lt Nat _ (L + 1 + 1 + 1 + 1 + 1) It ∧ @LT.lt Nat _ (L + 1 + 1 + 1 + 1) It)
    (hlo : @LT.lt Nat _ D lo ∧ @LT.lt Nat _ (L + 1 + 1 + 1 + 1 + 1) lo ∧ @LT.lt Nat _ (L + 1 + 1 + 1 + 1) lo)
    (hD : @LT.lt Nat _ (L + 1 + 1 + 1 + 1 + 1) D ∧ @LT.lt Nat _ (L + 1 + 1 + 1 + 1) D)
    (F9 : Fr h₀ L h (mTurnW n tn tw wo dy It D Dw u7))
    (N9 : News h₀ L h [(Dw, W.listOf wv.toArray kw), (Df, lst fv), (dy, lst yv), (I, oI), (It, oIt), (lo, oLo), (D, oD), (L + 1 + 1 + 1 + 1 + 1, oF), (L + 1 + 1 + 1 + 1, oPr)])
    (hk : TurnCK w L fa cd h₀ s I lo It D dy Df Dw oI oIt oPr oD oF oLo n tn wo fv yv tw u7 Q E) :
    wpAny (model Challenge.rw_ph0017_01.row.prog w) (callerA.deeper (lawEnv L fa cd)) (execs lawTurn2c (lawEnv L fa cd)) Q E { s with heap := h, toks := tk } := by
  revert X; k_fill; intro X
  dsimp only [lawEnv, lawScope, scopeOf, lawTurn2c, after2, lawTurn2b, after3, lawTurn2, lawLoop2, after5, lawLoop1, after6, headS, lawBody, lawStmt, lastS, bodyOf, Challenge.pw_ph0017_01]
  unfold mTurnW at F9
  walk_at "MINE to builtin"
  · (rename (64 : Int) ^ _ ≤ _ => hle)
    have hle2 : (64 : Int) ^ 25 ≤ (p : Int) := hle
    omega
  walk_at "MINE to builtin"
  refine iter_list (items := wv.toArray) (by k_asm) N9 ⟨_, (N9 _ List.mem_cons_self).1, rfl, kw, rfl⟩ ?_
  intro Ir h1 oIr F1 N1 ltr hIr
  have ltr := allLt_of ltr
  simp only [AllLt, and_true] at ltr
  (try dsimp only)
  walk_at "MINE to call"
  k_dflt (refine' Con.use (con_parse w mean mg mb Ir Dw oIr (W.listOf wv.toArray kw) kw _ wv (encF (hiL p)) 0 (hiL p) _ ?hU hIr ?hl rfl rfl hwv (hiL_lt p) (by rw [← List.length_pos_iff, hiL_length]; decide) (by rw [hiL_length]; decide) (fun j x hx => by rw [Nat.zero_add]; exact hx)) ?k1 ?k2 ?k3 ?k4 ?k5 ?k6 ?k7 ?k8 ?_; walk_at "MINE use"; (case hU => k_updF); (case hl => intro o; k_mem))
  rintro v h2 tk2 news2 F2 N2 ⟨tv, oIr2, rfl, rfl, _⟩
  rw [val_hi hp]
  (try dsimp only)
  walk_at "MINE to eif"
  · (rename (p : Int) ≠ _ => hne)
    exact absurd rfl hne
  walk_at "MINE to eif"
  exact hk _ _ F2 (cb_drop N2 (by kcj_all))

theorem at_TurnD : True := by
  w_top off
  exact trivial
theorem join_ge (sep x : Str) : ∀ r : List Str, x.length ≤ (Str.join sep (x :: r)).length
  | [] => Nat.le_refl _
  | y :: r => by
    show x.length ≤ (x ++ sep ++ Str.join sep (y :: r)).length
    rw [Str.length_append, Str.length_append]; omega
theorem W_pos {k : Nat} (h : k < 32) : 1 ≤ (Mine.W k).length := by
  have : ∀ k : Fin 32, 1 ≤ (Mine.W k.val).length := by decide +kernel
  exact this ⟨k, h⟩
theorem told_len (wo : Nat) : (Txt.join (Str.ofString ", ") ((bitsN 25 wo).map Mine.W)).length ≤ 4096 := by
  have h1 := StrLaws.join_length_le (Str.ofString ", ") ((bitsN 25 wo).map Mine.W)
  have h2 := words_sum (bitsN 25 wo)
  have h3 := bitsN_length 25 wo
  rw [List.length_map] at h1
  have h4 : (Str.ofString ", ").length = 2 := by decide
  rw [h4] at h1
  show (Builtin.Str.glued _ _).length ≤ _
  rw [StrLaws.glued_eq_join]
  omega
theorem told_cases {wo : Nat} (h : wo < 2 ^ 25) : (flagsT wo = Str.ofString "0x0" ∧ Txt.join (Str.ofString ", ") ((bitsN 25 wo).map Mine.W) = Str.ofString "") ∨
    (flagsT wo = Txt.join (Str.ofString ", ") ((bitsN 25 wo).map Mine.W) ∧ 1 ≤ (Txt.join (Str.ofString ", ") ((bitsN 25 wo).map Mine.W)).length) := by
  by_cases e : wo = 0
  · subst e
    exact Or.inl ⟨by unfold flagsT; rw [if_pos rfl], by decide +kernel⟩
  · refine Or.inr ⟨?_, ?_⟩
    · unfold flagsT
      rw [if_neg e, show bitsN 32 wo = bitsN 25 wo from bitsN_stop (j := 25) (k := 7) (Nat.div_eq_of_lt h)]
    · obtain ⟨i, hi⟩ := Nat.exists_testBit_of_ne_zero e
      have hi25 : i < 25 := by
        rcases Nat.lt_or_ge i 25 with q | q
        · exact q
        · rw [Nat.testBit_lt_two_pow (Nat.lt_of_lt_of_le h (Nat.pow_le_pow_right (by decide) q))] at hi; cases hi
      have hm : i ∈ bitsN 25 wo := List.mem_filter.mpr ⟨List.mem_range.mpr hi25, hi⟩
      show 1 ≤ (Builtin.Str.glued _ _).length
      rw [StrLaws.glued_eq_join]
      cases hb : bitsN 25 wo with
      | nil => rw [hb] at hm; cases hm
      | cons a r =>
        rw [List.map_cons]
        have ha : a < 25 := by
          have : a ∈ bitsN 25 wo := by rw [hb]; exact List.mem_cons_self
          exact List.mem_range.mp (List.mem_filter.mp this).1
        exact Nat.le_trans (W_pos (by omega)) (join_ge _ _ _)
theorem turn_D (w : World) (mean mg mb) (L fa : Addr) (cd : Value) (h₀ : Heap) (s : Shared) (I lo It D dy Df Dw : Addr) (oI oIt oPr oD oF oLo : Obj) (n : Nat) (tn : Tok) (p wo : Nat) (fv yv : List Value) (tw : Tok) (u7 : Str → Option Value) (h : Heap) (tk : Nat) (Q : Flow → Shared → Prop) (E : Value → Shared → Prop)
    (B : Below callerA h₀ [] h₀) (X : (hd.heap_39 w.params).In h₀) (T : Top hd.view_39 loo mean mg mb h₀)
    (hE : PassesOwn (model Challenge.rw_ph0017_01.row.prog w) (callerA.deeper (lawEnv L fa cd)) (lawEnv L fa cd) E)
    (hp : p < 64 ^ 25) (hwo : wo < 2 ^ 25) (hbits : ∀ k, k < 25 → wo.testBit k = decide (p / 64 ^ k % 64 % 2 = 1)) (dF : oF.data = .cell (some (.ref Df)))
    (hfv : IntsAre fv (figL p))
    (nef : @Ne Nat Df dy ∧ @Ne Nat Df I ∧ @Ne Nat Df It ∧ @Ne Nat Df lo ∧ @Ne Nat Df D ∧ @Ne Nat Df (L + 1 + 1 + 1 + 1 + 1) ∧ @Ne Nat Df (L + 1 + 1 + 1 + 1))
    (ltd : @LT.lt Nat _ I dy ∧ @LT.lt Nat _ It dy ∧ @LT.lt Nat _ lo dy ∧ @LT.lt Nat _ D dy ∧ @LT.lt Nat _ (L + 1 + 1 + 1 + 1 + 1) dy ∧ @LT.lt Nat _ (L + 1 + 1 + 1 + 1) dy)
    (hiI : @Ne Nat It I ∧ @Ne Nat lo I ∧ @Ne Nat D I ∧ @Ne Nat (L + 1 + 1 + 1 + 1 + 1) I ∧ @Ne Nat (L + 1 + 1 + 1 + 1) I)
    (ltI : @LT.lt Nat _ lo It ∧ @LT.lt Nat _ D It ∧ @LT.lt Nat _ (L + 1 + 1 + 1 + 1 + 1) It ∧ @LT.lt Nat _ (L + 1 + 1 + 1 + 1) It)
    (hlo : @LT.lt Nat _ D lo ∧ @LT.lt Nat _ (L + 1 + 1 + 1 + 1 + 1) lo ∧ @LT.lt Nat _ (L + 1 + 1 + 1 + 1) lo)
    (hD : @LT.lt Nat _ (L + 1 + 1 + 1 + 1 + 1) D ∧ @LT.lt Nat _ (L + 1 + 1 + 1 + 1) D)
    (F9 : Fr h₀ L h (mTurnW n tn tw wo dy It D Dw u7))
    (N9 : News h₀ L h [(Df, lst fv), (dy, lst yv), (I, oI), (It, oIt), (lo, oLo), (D, oD), (L + 1 + 1 + 1 + 1 + 1, oF), (L + 1 + 1 + 1 + 1, oPr)])
    (hk : ∀ (h : Heap) (tk : Nat), Fr h₀ L h (mTurnW n tn tw wo dy It D Dw u7) →
      News h₀ L h [(dy, lst yv), (I, oI), (It, oIt), (lo, oLo), (D, oD), (L + 1 + 1 + 1 + 1 + 1, oF), (L + 1 + 1 + 1 + 1, oPr)] → Q .next { s with heap := h, toks := tk }) :
    wpAny (model Challenge.rw_ph0017_01.row.prog w) (callerA.deeper (lawEnv L fa cd)) (execs lawTurn2d (lawEnv L fa cd)) Q E { s with heap := h, toks := tk } := by
  revert X; k_fill; intro X
  dsimp only [lawEnv, lawScope, scopeOf, lawTurn2d, after1, lawTurn2c, after2, lawTurn2b, after3, lawTurn2, lawLoop2, after5, lawLoop1, after6, headS, lawBody, lawStmt, lastS, bodyOf, Challenge.pw_ph0017_01]
  unfold mTurnW at F9
  walk_at "MINE to call"
  k_dflt (refine' Con.use (con_pretty w mean mg mb (wo : Int) _ _ (by omega) (by omega)) ?k1 ?k2 ?k3 ?k4 ?k5 ?k6 ?k7 ?k8 ?_; walk_at "MINE use")
  rintro v h1 tk1 news1 F1 N1 ⟨tf, rfl, rfl⟩
  rw [Int.toNat_natCast]
  (try dsimp only)
  walk_at "MINE to comp"
  walk_at "MINE comp T"
  refine LCt.CompSrcT.range (by rfl) (by k_asm) (by k_asm) (by assumption) (by first | decide | rfl) (by first | rfl | decide) (by rw [sizeLine_eq]; decide) ?_
  intro g9
  refine rest_T IsS (fun k => Mine.W k) (fun k => wo.testBit k) _ trivial ?_ ?_
  · intro i v I2 oI2 C oC D2 ys m₂ h tk E' hi hv hC2 hx2 F11 N11 off ne
    obtain ⟨t9, rfl⟩ := hv
    have hi9 : i < 25 := hi
    walk_at "MINE to sub"
    have ei : (0 + (i : Int)).toNat = i := by omega
    obtain ⟨t8, h8⟩ := hfv.get i ((p / 64 ^ i % 64 : Nat) : Int) (by unfold figL; rw [List.getElem?_map, List.getElem?_range (by omega)]; rfl)
    (rename News _ _ _ _ => N8)
    refine item_litK (vs := fv) (News.isList N8 (by k_mem)) (by omega) (by omega) (by rw [ei]; exact h8) ?_
    (try dsimp only)
    walk_at "MINE to call"
    · rw [hbits i hi9, Int.fmod_eq_emod_of_nonneg _ (by decide), Bool.eq_iff_iff]
      simp only [beq_iff_eq, decide_eq_true_eq]
      omega
    walk_at "MINE to call"
    · k_dflt (refine' Con.use (con_word w mean mg mb _ _ _ (by omega) (by omega)) ?k1 ?k2 ?k3 ?k4 ?k5 ?k6 ?k7 ?k8 ?_; walk_at "MINE use")
      rintro v h12 tk12 news12 F12 N12 ⟨t12, rfl, rfl⟩
      rw [ei]
      exact EltK.intro F12 N12 (fun p hp => hp) ⟨t12, rfl⟩
    · exact EltK.intro (by assumption) (by assumption) (fun p hp => hp) trivial
  · intro wvs hys Dv h tk FD ND O9
    have hwv : StrsAre wvs ((bitsN 25 wo).map Mine.W) := strs_of_paired hys
    clear hys
    (try dsimp only)
    walk_at "MINE to builtin"
    refine join_list (ys := (bitsN 25 wo).map Mine.W) (News.isList ND List.mem_cons_self) (by simpa using hwv) (words_fit (Nat.le_trans (bitsN_length _ _) (by decide)) (Str.ofString ", ") (by decide)) (fun tj kj => ?_)
    clear hwv
    have hJ := told_cases hwo
    have hJl : (Txt.join (Str.ofString ", ") ((bitsN 25 wo).map Mine.W)).length ≤ 4096 := told_len wo
    generalize Txt.join (Str.ofString ", ") ((bitsN 25 wo).map Mine.W) = J at hJ hJl
    generalize flagsT wo = J0 at hJ
    refine P.truthy_str (by omega) ?_
    (try dsimp only)
    rcases hJ with ⟨rfl, rfl⟩ | ⟨rfl, hJ⟩
    · walk_at "MINE to eif"
      exact hk _ _ FD (cb_drop ND (by kcj_all))
    · have hz : ((J0.length : Int) != 0) = true := by simp; omega
      rw [hz]
      walk_at "MINE to eif"
      · (rename (J0 != J0) = true => hne)
        rw [bne_self_eq_false] at hne
        cases hne
      walk_at "MINE to eif"
      exact hk _ _ FD (cb_drop ND (by kcj_all))

theorem at_ListEnd : True := by
  w_top off
  exact trivial
section
variable {prog : Program} {w : World} {A : Around} {E : Value → Shared → Prop} {s : Shared} {h₀ : Heap} {L : Addr} {m : Str → Option Value} {news : List (Addr × Obj)} {I ax : Addr} {oI : Obj} {items : Array Value}
/-- a list's iterator that has come to its end -/
theorem endWalks (hh : A.handled = none) : Walks prog w A I [I, ax] [I] 0 (fun _ _ => True) (fun _ h => h.IsListIter I ax items.size ∧ h.IsList ax items) where
  sub := fun b hb => by simp at hb; simp [hb]
  frame := fun _ _ _ st hk => ⟨st.1.at fun o e => hk I (by simp) o e, st.2.at fun o e => hk ax (by simp) o e⟩
  item := fun i s Q E hi _ _ => absurd hi (Nat.not_lt_zero i)
  done := fun s Q E st hQ => wpAny_pyNext_list_end hh st.1 st.2 (by simp) fun h' he' => hQ h' s.toks fun b o hb e => he' b o (fun h => hb (by simp [h])) e
  self := fun _ _ _ _ st hQ => wpAny_pyIter_listiter st.1 hQ
theorem end_extend {R : Result → Shared → Prop} (hh : A.handled = none) (hit : s.heap.IsListIter I ax items.size) (hl : s.heap.IsList ax items) (S : Addr) (hSI : S ≠ I) (hSa : S ≠ ax) (res : Value) (c₀ : Nat) (hS : s.heap.get? S = some { cls := .type "list", data := .seq #[] c₀ })
    (hR : ∀ h' tk c', (∀ b o, b ≠ S → b ≠ I → s.heap.get? b = some o → h'.get? b = some o) → h'.get? S = some { cls := .type "list", dict := none, data := .seq #[] c', slots := #[] } → R (.ok (.ret res)) { s with heap := h', toks := tk }) :
    wpAny (model prog w) A.in1 (Builtin.List.listExtendWith (.ref S) (.ref I) res)
      (fun fin s' => match fin with | .done f => R (.ok f) s' | .again c' => c'.quiet = true ∧ codeAny (model prog w) A c' R s') (fun e s' => R (.error e) s') s := by
  have hSf : S ∉ [I, ax] := by simp only [List.mem_cons, List.not_mem_nil, or_false, not_or]; exact ⟨hSI, hSa⟩
  have W := (endWalks (prog := prog) (w := w) (A := A.in1) (I := I) (ax := ax) (items := items) hh).toS
  have h1 : Builtin.List.listSameRef (.ref S) (.ref I) = false := by simp [Builtin.List.listSameRef, hSI]
  have hT : s.TypeIs (.ref I) "list_iterator" := hit.typeIs
  unfold Builtin.List.listExtendWith
  refine wpAny_bind (wpAny_typeOf hT ?_)
  rw [if_neg (by rw [h1]; decide)]
  refine wpAny_bind (wpAny_pyIter_listiter hit ?_)
  refine wpAny_bind (wpAny_holding ?_)
  unfold Builtin.List.listLengthHint
  refine wpAny_bind (wpAny_specialOf hT PySem.F.nolen_li ?_)
  show wpAny _ A.in1 (specialOf (Value.ref I) (Str.ofString "__length_hint__") >>= _) _ _ _
  refine wpAny_bind (wpAny_specialOf hT PySem.F.hint_li ?_)
  (generalize hid : ("list_iterator.__length_hint__" : String) = id0; wp_delta; rw [show splitId id0 = some ("list_iterator", "__length_hint__") from by subst hid; decide +kernel]; subst hid)
  refine wpAny_bind (wpAny_isInstance (b := true) hT (by rw [isSubtype_type]; kernel_rfl) ?_)
  refine wpAny_pure ?_
  rw [if_neg (by decide)]
  refine wpAny_pure ⟨plainId_quiet PySem.F.plain_extend_loop _, codeAny_extend_loopS W (Nat.zero_le _) S hSf _ 0 0 s #[] c₀ rfl (Nat.zero_le _) ⟨hit, hl⟩ hS (ItemsOf.nil _) fun s' acc' c' hm hS' hacc => ?_⟩
  have e0 : acc' = #[] := Array.eq_empty_of_size_eq_zero hacc.1
  subst e0
  rw [Moved.eq_with hm]
  exact hR s'.heap s'.toks c' (fun b o hb hbI e => hm.heap b o (by simp only [List.mem_cons, List.not_mem_nil, or_false, not_or]; exact ⟨hb, hbI⟩) e) hS'
theorem end_init {R : Result → Shared → Prop} (hh : A.handled = none) (hit : s.heap.IsListIter I ax items.size) (hl : s.heap.IsList ax items) (S : Addr) (hSI : S ≠ I) (hSa : S ≠ ax) (hS : s.heap.get? S = some { cls := .type "list", data := .seq #[] })
    (hR : ∀ h' tk c', (∀ b o, b ≠ S → b ≠ I → s.heap.get? b = some o → h'.get? b = some o) → h'.get? S = some { cls := .type "list", dict := none, data := .seq #[] c', slots := #[] } → R (.ok (.ret .none)) { s with heap := h', toks := tk }) :
    wpAny (model prog w) A.in1 (Builtin.«list.__init__» ⟨[.ref S, .ref I], []⟩)
      (fun fin s' => match fin with | .done f => R (.ok f) s' | .again c' => c'.quiet = true ∧ codeAny (model prog w) A c' R s') (fun e s' => R (.error e) s') s := by
  show wpAny _ _ (do let old ← Builtin.List.listItems (.ref S); Builtin.List.listUpdate (.ref S) (fun _ => #[]); letGo old.toList.reverse; Builtin.List.listExtendWith (.ref S) (.ref I) .none) _ _ s
  refine wpAny_bind ?_
  unfold Builtin.List.listItems
  refine wpAny_bind (wpAny_seqItems hS rfl (wpAny_pure ?_))
  show wpAny _ _ (updateSeq S (fun _ => #[]) >>= fun _ => letGo (#[] : Array Value).toList.reverse >>= fun _ => Builtin.List.listExtendWith (.ref S) (.ref I) .none) _ _ s
  refine wpAny_bind (wpAny_updateSeq hS rfl ?_)
  have hS₂ := Heap.get?_update_self (Obj.mapSeq (fun _ => (#[] : Array Value))) hS rfl
  have oth : ∀ b o, b ≠ S → s.heap.get? b = some o → (s.heap.update S (Obj.mapSeq (fun _ => (#[] : Array Value)))).get? b = some o :=
    fun b o hb e => (Heap.get?_update_other _ _ (Ne.symm hb)).trans e
  refine wpAny_bind (wpAny_letGo ?_)
  refine end_extend hh (hit.at fun o e => oth _ o (Ne.symm hSI) e) (hl.at fun o e => oth _ o (Ne.symm hSa) e) S hSI hSa .none _ hS₂ fun h' tk c' hk hS' => ?_
  exact hR h' tk c' (fun b o hb hbI e => hk b o hb hbI (oth b o hb e)) hS'
/-- list(it), the iterator at its end: a new list, empty -/
theorem list_end {Q : Value → Shared → Prop} (hh : A.handled = none) (F : Fr h₀ L s.heap m) (N : News h₀ L s.heap news) (hm : (I, oI) ∈ news) (hI : IterAt oI ax items.size) (hl : s.heap.IsList ax items)
    (h : ∀ D c h' tk, Fr h₀ L h' m → News h₀ L h' [(D, W.listOf #[] c)] → Q (.ref D) { s with heap := h', toks := tk }) : wpAny (model prog w) A (call (.type "list") [.ref I]) Q E s := by
  have hN := N _ hm
  have hit : s.heap.IsListIter I ax items.size := ⟨oI, hN.1, hI.1, hI.2⟩
  refine callType_codes (Q₁ := fun obj s₁ => obj = .ref s.heap.objs.size ∧ s₁ = { s with heap := s.heap.push { cls := .type "list", data := .seq #[] } }) PySem.F.called_list (PySem.F.typeCall_list_1 _) PySem.F.entry_list_init
    (code_list_new _ ⟨rfl, rfl⟩) fun obj s₁ h₁ => ?_
  obtain ⟨rfl, rfl⟩ := h₁
  have hS : (s.heap.push { cls := .type "list", data := .seq #[] }).get? s.heap.objs.size = some { cls := .type "list", data := .seq #[] } := Heap.get?_push_size _ rfl
  have hIlt : I < s.heap.objs.size := Heap.lt_size hN.1
  have halt : ax < s.heap.objs.size := by obtain ⟨_, e, _⟩ := hl; exact Heap.lt_size e
  refine ⟨⟨_, hS, rfl⟩, PySem.F.args_list_init_2 _ _, end_init (A := A.in1) hh (hit.at fun o e => Heap.get?_push_of_some _ e) (hl.at fun o e => Heap.get?_push_of_some _ e) _ (Nat.ne_of_gt hIlt) (Nat.ne_of_gt halt) hS fun h' tk c' hk hS' => ?_⟩
  have hk2 : ∀ b o, b ∉ [I] → s.heap.get? b = some o → h'.get? b = some o := fun b o hb e => hk b o (Nat.ne_of_lt (Heap.lt_size e)) (fun q => hb (by rw [q]; exact List.mem_singleton.mpr rfl)) (Heap.get?_push_of_some _ e)
  refine ⟨rfl, h _ c' h' tk (fr_but F hk2 (Ne.symm hN.2.1) hN.2.2) fun p hp => ?_⟩
  rw [List.mem_singleton.mp hp]
  refine ⟨hS', Nat.ne_of_gt F.ns.lt, ?_⟩
  cases q : h₀.get? s.heap.objs.size with
  | none => rfl
  | some o => exact absurd (Heap.lt_size (F.keep _ o q)) (Nat.lt_irrefl _)
end

theorem at_LawC : True := by
  w_top off
  exact trivial
theorem updX {v : Value} {a b c d : Value} {n : Nat} {tn : Tok} {W : Nat} {tw : Tok} {dy It D : Addr} {u9 u8 u7 : Str → Option Value} (e0 : v = .int (n : Int) tn := by rfl) (e1 : a = .ref dy := by rfl) (e2 : b = .int (W : Int) tw := by rfl) (e3 : c = .ref It := by rfl) (e4 : d = .ref D := by rfl) :
    (fun y => if y = Str.ofString "x" then some v else if y = Str.ofString "x" then u9 y else if y = Str.ofString "written" then u8 y else if y = Str.ofString "ways" then some a else if y = Str.ofString "without" then some b else if y = Str.ofString "tape" then some c else if y = Str.ofString "numbers" then some d else u7 y) = mTurn n tn tw W dy It D u8 u7 := by
  subst e0 e1 e2 e3 e4
  unfold mTurn
  funext y
  by_cases e : y = Str.ofString "x"
  · simp only [if_pos e]
  · simp only [if_neg e]
theorem law_C (NL : NumLaw) (w : World) (mean mg mb) (L fa : Addr) (cd : Value) (h₀ : Heap) (s : Shared) (oF : Obj) (Q : Flow → Shared → Prop) (E : Value → Shared → Prop)
    (B : Below callerA h₀ [] h₀) (X : (hd.heap_39 w.params).In h₀) (T : Top hd.view_39 loo mean mg mb h₀) (dF : oF.data = .cell none)
    (hE : PassesOwn (model Challenge.rw_ph0017_01.row.prog w) (callerA.deeper (lawEnv L fa cd)) (lawEnv L fa cd) E)
    (hQ : ∀ (h : Heap) (tk : Nat) (m : Str → Option Value), Fr h₀ L h m → Q (.ret (.bool true)) { s with heap := h, toks := tk }) : Loop2K w L fa cd h₀ s oF Q E := by
  intro D lo It dy n0 n1 n2 t0 t1 t2 tw tp ov yv k ny oIt oPr u9 u8 u7 h tk hn0 hn1 hn2 hov hIt hyv dP lty ltI hlo hD F N
  revert X; k_fill; intro X
  dsimp only [lawEnv, lawScope, scopeOf, lawLoop2, after5, lawLoop1, after6, lawBody, lawStmt, lastS, bodyOf, Challenge.pw_ph0017_01]
  walk_at "MINE to for"
  k_dflt (refine for_list (by k_asm) (by rfl) (by rfl) ?_ (hE := hE))
  walk1
  refine ⟨D, [Value.int (n0 : Int) t0, Value.int (n1 : Int) t1, Value.int (n2 : Int) t2].toArray, _, _, (fun i m nw => ∃ (dy : Addr) (yv : List Value) (ny : Nat) (oIt oPr oF : Obj) (fv : Option Value) (tw tp : Tok) (u9 u8 u7 : Str → Option Value), nw = [(dy, W.listOf yv.toArray ny), (It, oIt), (lo, W.listOf ov.toArray k), (D, lst [.int (n0 : Int) t0, .int (n1 : Int) t1, .int (n2 : Int) t2]), (L + 1 + 1 + 1 + 1 + 1, oF), (L + 1 + 1 + 1 + 1, oPr)] ∧
    IterAt oIt lo (9 * i) ∧ IntsAre yv (stY ([n0, n1, n2].take i)) ∧ oPr.data = .cell (some (.int (stP ([n0, n1, n2].take i) : Nat) tp)) ∧ oF.data = .cell fv ∧
    (@Ne Nat It dy ∧ @Ne Nat lo dy ∧ @Ne Nat D dy ∧ @Ne Nat (L + 1 + 1 + 1 + 1 + 1) dy ∧ @Ne Nat (L + 1 + 1 + 1 + 1) dy) ∧
    m = fun y => if y = Str.ofString "x" then u9 y else if y = Str.ofString "written" then u8 y else if y = Str.ofString "ways" then some (.ref dy) else if y = Str.ofString "without" then some (.int (stW ([n0, n1, n2].take i) : Nat) tw) else if y = Str.ofString "tape" then some (.ref It) else if y = Str.ofString "numbers" then some (.ref D) else u7 y), rfl, rfl, F, N, ?_, ?_, ?_, ?_⟩
  · rintro i m nw ⟨dy, yv, ny, oIt, oPr, oF, fv, tw, tp, u9, u8, u7, rfl, _⟩
    exact Or.inr ⟨_, by k_mem, rfl, _, rfl⟩
  · exact ⟨dy, yv, ny, oIt, oPr, oF, _, tw, tp, u9, u8, u7, rfl, hIt, hyv, dP, dF, ⟨Nat.ne_of_lt lty.1, Nat.ne_of_lt lty.2.1, Nat.ne_of_lt lty.2.2.1, Nat.ne_of_lt lty.2.2.2.1, Nat.ne_of_lt lty.2.2.2.2⟩, rfl⟩
  · clear F N
    rintro i v m₁ news₁ I oI h tk hv ⟨dy, yv, ny, oIt, oPr, oF, fv, tw, tp, u9, u8, u7, rfl, hIt, hyv, dP, dF, hdy, rfl⟩ offI ltI2 F9 N9
    obtain ⟨n, tn, rfl, hn, hni⟩ : ∃ n tn, v = .int ((n : Nat) : Int) tn ∧ n < 512 ∧ [n0, n1, n2][i]? = some n := by
      have hi3 : i < 3 := by
        rcases Nat.lt_or_ge i 3 with q | q
        · exact q
        · rw [Array.getElem?_eq_none (by exact q)] at hv; cases hv
      have hi : i = 0 ∨ i = 1 ∨ i = 2 := by omega
      rcases hi with rfl | rfl | rfl
      · exact ⟨n0, t0, (Option.some.inj hv).symm, hn0, rfl⟩
      · exact ⟨n1, t1, (Option.some.inj hv).symm, hn1, rfl⟩
      · exact ⟨n2, t2, (Option.some.inj hv).symm, hn2, rfl⟩
    have hiI : @Ne Nat dy I ∧ @Ne Nat It I ∧ @Ne Nat lo I ∧ @Ne Nat D I ∧ @Ne Nat (L + 1 + 1 + 1 + 1 + 1) I ∧ @Ne Nat (L + 1 + 1 + 1 + 1) I :=
      ⟨offI _ List.mem_cons_self, offI (It, oIt) (by k_mem), offI (lo, W.listOf ov.toArray k) (by k_mem), offI (D, _) (by k_mem), offI (L + 1 + 1 + 1 + 1 + 1, oF) (by k_mem), offI (L + 1 + 1 + 1 + 1, oPr) (by k_mem)⟩
    clear hv
    have hi3 : i < 3 := by
      rcases Nat.lt_or_ge i 3 with q | q
      · exact q
      · rw [List.getElem?_eq_none (by exact q)] at hni; cases hni
    have hall : ∀ j, ∀ q ∈ [n0, n1, n2].take j, q < 512 := by
      intro j q hq
      have := List.mem_of_mem_take hq
      simp only [List.mem_cons, List.not_mem_nil, or_false] at this
      rcases this with rfl | rfl | rfl <;> assumption
    have NL0 := NL ([n0, n1, n2].take i) (by rw [List.length_take]; exact Nat.min_le_right _ _) (hall i)
    have NL1 := NL ([n0, n1, n2].take (i + 1)) (by rw [List.length_take]; exact Nat.min_le_right _ _) (hall (i + 1))
    have hW17 := NL0.2.2.2.1 (by rw [List.length_take]; simp only [List.length_cons, List.length_nil]; omega)
    rw [stP_take hni, stY_take hni, stW_take hni] at NL1
    refine turn_A w mean mg mb L fa cd h₀ _ I lo It D dy oI oIt oPr _ oF n tn (stP ([n0, n1, n2].take i)) (stW ([n0, n1, n2].take i)) (9 * i) (stY ([n0, n1, n2].take i)) yv ny k ov (octsAll [n0, n1, n2]) tw tp u8 u7 h tk _ E B X T hE hn NL0.1 hW17 (stY_length _) hov (fun j x hx => octsAll_at hni hx) hIt hyv dP hdy hiI ltI hlo hD (Fr.conv F9 updX) N9 ?_
    intro dy2 yv2 oIt2 oPr2 tw2 tp2 u82 u72 h2 tk2 hIt2 hyv2 dP2 ltd F2 N2
    refine turn_B w mean mg mb L fa cd h₀ _ I lo It D dy2 oI oIt2 oPr2 _ oF _ fv n tn _ _ yv2 tw2 tp2 u82 u72 h2 tk2 _ E B X T hE NL1.1 dP2 dF ltd ⟨hiI.2.1, hiI.2.2.1, hiI.2.2.2.1, hiI.2.2.2.2.1, hiI.2.2.2.2.2⟩ ltI hlo hD F2 N2 ?_
    intro Df Dw fvs wvs kw oF2 h3 tk3 hfv hwv dF2 ltw nef F3 N3
    have hyv3 : IntsAre yv2 (figL (stP ([n0, n1, n2].take i) * valF (bitsD n))) := by rw [NL1.2.1] at hyv2; exact hyv2
    refine turn_C w mean mg mb L fa cd h₀ _ I lo It D dy2 Df Dw oI oIt2 oPr2 _ oF2 _ n tn _ _ fvs yv2 wvs kw tw2 tp2 u72 h3 tk3 _ E B X T hE NL1.1 dP2 dF2 hfv hyv3 hwv ltw nef ltd ⟨hiI.2.1, hiI.2.2.1, hiI.2.2.2.1, hiI.2.2.2.2.1, hiI.2.2.2.2.2⟩ ltI hlo hD F3 N3 ?_
    intro h4 tk4 F4 N4
    refine turn_D w mean mg mb L fa cd h₀ _ I lo It D dy2 Df Dw oI oIt2 oPr2 _ oF2 _ n tn _ _ fvs yv2 tw2 u72 h4 tk4 _ E B X T hE NL1.1 NL1.2.2.1 NL1.2.2.2.2 dF2 hfv nef ltd ⟨hiI.2.1, hiI.2.2.1, hiI.2.2.2.1, hiI.2.2.2.2.1, hiI.2.2.2.2.2⟩ ltI hlo hD F4 N4 ?_
    intro h5 tk5 F5 N5
    refine TurnK.next F5 N5 (news' := [(dy2, lst yv2), (It, oIt2), (lo, W.listOf ov.toArray k), (D, lst [Value.int (n0 : Int) t0, Value.int (n1 : Int) t1, Value.int (n2 : Int) t2]), (L + 1 + 1 + 1 + 1 + 1, oF2), (L + 1 + 1 + 1 + 1, oPr2)]) (by kcj_all) ?_
      ⟨dy2, yv2, yv2.length, oIt2, oPr2, oF2, _, tw2, tp2, fun _ => some (.int (n : Int) tn), fun _ => some (.ref Dw), u72, rfl, hIt2, by rw [stY_take hni]; exact hyv2, by rw [stP_take hni]; exact dP2, dF2,
        ⟨Nat.ne_of_lt ltd.2.1, Nat.ne_of_lt ltd.2.2.1, Nat.ne_of_lt ltd.2.2.2.1, Nat.ne_of_lt ltd.2.2.2.2.1, Nat.ne_of_lt ltd.2.2.2.2.2⟩, by rw [stW_take hni]; rfl⟩
    intro p hp
    simp only [List.mem_cons, List.not_mem_nil, or_false] at hp
    rcases hp with rfl | rfl | rfl | rfl | rfl | rfl
    · exact Nat.ne_of_gt ltd.1
    · exact hiI.2.1
    · exact hiI.2.2.1
    · exact hiI.2.2.2.1
    · exact hiI.2.2.2.2.1
    · exact hiI.2.2.2.2.2
  · rintro h tk m' news' F9 N9 ⟨dy, yv, ny, oIt, oPr, oF, fv, tw, tp, u9, u8, u7, rfl, hIt, hyv, dP, dF, hdy, rfl⟩
    (try dsimp only)
    repeat ((fail_if_success (with_reducible show wpAny _ _ (PySem.call (Value.type _) _) _ _ _)); first | walk1 | (dsimp only; walk1))
    have h27 : ov.toArray.size = 27 := by rw [List.size_toArray, hov.length]; unfold octsAll; simp [List.flatMap_cons, octs_length]
    refine list_end (ax := lo) (items := ov.toArray) rfl F9 N9 (I := It) (oI := oIt) (by k_mem) (by rw [h27]; exact hIt) ⟨_, (N9 (lo, W.listOf ov.toArray k) (by k_mem)).1, rfl, k, rfl⟩ ?_
    intro De ce h2 tk2 F2 N2
    (try dsimp only)
    repeat (first | walk1 | (dsimp only; walk1))
    exact hQ _ _ _ (by assumption)

theorem at_NumL : True := by
  w_top off
  exact trivial
/-- sums up to n -/
def sumN : Nat → (Nat → Nat) → Nat
  | 0, _ => 0
  | n + 1, f => sumN n f + f n
theorem sumN_congr {n : Nat} {f g : Nat → Nat} (h : ∀ k, k < n → f k = g k) : sumN n f = sumN n g := by
  induction n with
  | zero => rfl
  | succ n ih => rw [sumN, sumN, ih (fun k hk => h k (by omega)), h n (by omega)]
theorem sumN_zero {n : Nat} {f : Nat → Nat} (h : ∀ k, k < n → f k = 0) : sumN n f = 0 := by
  induction n with
  | zero => rfl
  | succ n ih => rw [sumN, ih (fun k hk => h k (by omega)), h n (by omega)]
theorem sumN_add (n : Nat) (f g : Nat → Nat) : sumN n (fun k => f k + g k) = sumN n f + sumN n g := by
  induction n with
  | zero => rfl
  | succ n ih => simp only [sumN]; rw [ih]; omega
theorem sumN_split (a b : Nat) (f : Nat → Nat) : sumN (a + b) f = sumN a f + sumN b (fun k => f (a + k)) := by
  induction b with
  | zero => rfl
  | succ b ih => rw [← Nat.add_assoc, sumN, ih, sumN]; omega
theorem sumN_mul (n c : Nat) (f : Nat → Nat) : sumN n (fun k => c * f k) = c * sumN n f := by
  induction n with
  | zero => rfl
  | succ n ih => simp only [sumN]; rw [ih, Nat.mul_add]
/-- figures to a number -/
def valN (y : Nat → Nat) : Nat := sumN 25 (fun k => y k * 64 ^ k)
def conv (y : Nat → Nat) (pl : List Nat) (k : Nat) : Nat := (pl.map (fun p => if p ≤ k then y (k - p) else 0)).sum
theorem conv_nil (y : Nat → Nat) (k : Nat) : conv y [] k = 0 := rfl
theorem conv_cons (y : Nat → Nat) (p : Nat) (r : List Nat) (k : Nat) : conv y (p :: r) k = (if p ≤ k then y (k - p) else 0) + conv y r k := by
  unfold conv; rw [List.map_cons, List.sum_cons]
theorem shift_val {y : Nat → Nat} {p : Nat} (hp : p ≤ 8) (h0 : ∀ k, 16 < k → y k = 0) : sumN 25 (fun k => (if p ≤ k then y (k - p) else 0) * 64 ^ k) = 64 ^ p * valN y := by
  have e : 25 = p + (25 - p) := by omega
  rw [e, sumN_split, sumN_zero (fun k hk => by rw [if_neg (by omega), Nat.zero_mul]), Nat.zero_add]
  rw [sumN_congr (g := fun k => 64 ^ p * (y k * 64 ^ k)) (fun k hk => by rw [if_pos (by omega), Nat.pow_add, show p + k - p = k by omega, ← Nat.mul_assoc, Nat.mul_comm (y k), Nat.mul_assoc]), sumN_mul]
  congr 1
  unfold valN
  rw [show 25 = (25 - p) + p by omega, sumN_split, show 25 - p + p - p = 25 - p by omega, sumN_zero (n := p) (fun k hk => by rw [h0 _ (by omega), Nat.zero_mul]), Nat.add_zero]
theorem conv_val {y : Nat → Nat} {pl : List Nat} (hp : ∀ p ∈ pl, p ≤ 8) (h0 : ∀ k, 16 < k → y k = 0) : valN (conv y pl) = valN y * (pl.map (fun p => 64 ^ p)).sum := by
  induction pl with
  | nil => simp [valN, conv_nil, sumN]
  | cons p r ih =>
    have := ih (fun q hq => hp q (List.mem_cons_of_mem _ hq))
    have e : valN (conv y (p :: r)) = sumN 25 (fun k => (if p ≤ k then y (k - p) else 0) * 64 ^ k + conv y r k * 64 ^ k) := by
      unfold valN; exact sumN_congr (fun k _ => by rw [conv_cons, Nat.add_mul])
    rw [e, sumN_add, shift_val (hp p List.mem_cons_self) h0, List.map_cons, List.sum_cons, Nat.mul_add, ← this, Nat.mul_comm (64 ^ p)]
    rfl
theorem conv_support {y : Nat → Nat} {pl : List Nat} {d : Nat} (hp : ∀ p ∈ pl, p ≤ 8) (h0 : ∀ k, d < k → y k = 0) : ∀ k, d + 8 < k → conv y pl k = 0 := by
  intro k hk
  induction pl with
  | nil => rfl
  | cons p r ih =>
    have h8 := hp p List.mem_cons_self
    rw [conv_cons, ih (fun q hq => hp q (List.mem_cons_of_mem _ hq)), if_pos (by omega), h0 _ (by omega)]
theorem conv_le {y z : Nat → Nat} (pl : List Nat) (k : Nat) (h : ∀ j, j ≤ k → y j ≤ z j) : conv y pl k ≤ conv z pl k := by
  induction pl with
  | nil => exact Nat.le_refl _
  | cons p r ih =>
    rw [conv_cons, conv_cons]
    refine Nat.add_le_add ?_ ih
    split
    · exact h _ (by omega)
    · exact Nat.le_refl _
theorem conv_filter_le (y : Nat → Nat) (q : Nat → Bool) (pl : List Nat) (k : Nat) : conv y (pl.filter q) k ≤ conv y pl k := by
  induction pl with
  | nil => exact Nat.le_refl _
  | cons p r ih =>
    rw [List.filter_cons]
    split
    · rw [conv_cons, conv_cons]; exact Nat.add_le_add_left ih _
    · rw [conv_cons]; omega
theorem plcN_le (n : Nat) : ∀ p ∈ plcN n, p ≤ 8 := by
  intro p hp
  have := List.mem_range.mp (List.mem_filter.mp hp).1
  omega
/-- the figures so far -/
def unitN : Nat → Nat := fun k => if k = 0 then 1 else 0
def stN (ns : List Nat) : Nat → Nat := ns.foldl (fun y n => conv y (plcN n)) unitN
def fullN : Nat → Nat → Nat
  | 0 => unitN
  | m + 1 => conv (fullN m) (List.range 9)
theorem fullN_61 : ∀ m : Fin 4, ∀ k : Fin 25, fullN m.val k.val ≤ 61 := by decide +kernel
theorem snoc_ind {α : Type} {P : List α → Prop} (h0 : P []) (h1 : ∀ l a, P l → P (l ++ [a])) (l : List α) : P l := by
  have : ∀ r : List α, P r.reverse := by
    intro r
    induction r with
    | nil => exact h0
    | cons a r ih => rw [List.reverse_cons]; exact h1 _ _ ih
  have := this l.reverse
  rwa [List.reverse_reverse] at this
theorem stN_snoc (l : List Nat) (n : Nat) : stN (l ++ [n]) = conv (stN l) (plcN n) := by
  unfold stN; rw [List.foldl_append]; rfl
theorem stN_le (ns : List Nat) : ∀ k, stN ns k ≤ fullN ns.length k := by
  induction ns using snoc_ind with
  | h0 => exact fun k => Nat.le_refl _
  | h1 l a ih =>
    intro k
    rw [stN_snoc, List.length_append, List.length_singleton]
    exact Nat.le_trans (conv_le _ k (fun j _ => ih j)) (conv_filter_le _ _ _ _)
theorem stN_support (ns : List Nat) : ∀ k, 8 * ns.length < k → stN ns k = 0 := by
  induction ns using snoc_ind with
  | h0 => intro k hk; show (if k = 0 then 1 else 0) = 0; rw [if_neg (by simp at hk; omega)]
  | h1 l a ih =>
    intro k hk
    rw [List.length_append, List.length_singleton] at hk
    rw [stN_snoc]
    exact conv_support (plcN_le a) ih k (by omega)
theorem sum_filter (q : Nat → Bool) (f : Nat → Nat) (l : List Nat) : ((l.filter q).map f).sum = (l.map (fun p => f p * (if q p = true then 1 else 0))).sum := by
  induction l with
  | nil => rfl
  | cons p r ih =>
    rw [List.filter_cons, List.map_cons, List.sum_cons]
    split
    · rw [List.map_cons, List.sum_cons, ih]; omega
    · rw [ih]; omega
theorem valF_plc (n : Nat) : valF (bitsD n) = ((plcN n).map (fun p => 64 ^ p)).sum := by
  unfold plcN
  rw [sum_filter]
  unfold bitsD valF
  rw [show List.range 9 = [0, 1, 2, 3, 4, 5, 6, 7, 8] from rfl]
  simp only [List.map_cons, List.map_nil, List.sum_cons, List.sum_nil, List.foldl_cons, List.foldl_nil]
  generalize (if n.testBit 0 = true then 1 else 0) = b0
  generalize (if n.testBit 1 = true then 1 else 0) = b1
  generalize (if n.testBit 2 = true then 1 else 0) = b2
  generalize (if n.testBit 3 = true then 1 else 0) = b3
  generalize (if n.testBit 4 = true then 1 else 0) = b4
  generalize (if n.testBit 5 = true then 1 else 0) = b5
  generalize (if n.testBit 6 = true then 1 else 0) = b6
  generalize (if n.testBit 7 = true then 1 else 0) = b7
  generalize (if n.testBit 8 = true then 1 else 0) = b8
  omega
theorem stP_snoc (l : List Nat) (n : Nat) : stP (l ++ [n]) = stP l * valF (bitsD n) := by
  unfold stP; rw [List.foldl_append]; rfl
theorem stP_val (ns : List Nat) : ns.length ≤ 3 → stP ns = valN (stN ns) := by
  induction ns using snoc_ind with
  | h0 => intro _; decide +kernel
  | h1 l a ih =>
    intro hl
    rw [List.length_append, List.length_singleton] at hl
    rw [stP_snoc, stN_snoc, conv_val (plcN_le a) (fun k hk => stN_support l k (by omega)), ih (by omega), valF_plc]
/-- the figures of a number that is written so -/
theorem figs {y : Nat → Nat} : ∀ n, (∀ k, k < n → y k < 64) → sumN n (fun k => y k * 64 ^ k) < 64 ^ n ∧ ∀ k, k < n → sumN n (fun k => y k * 64 ^ k) / 64 ^ k % 64 = y k := by
  intro n
  induction n with
  | zero => intro _; exact ⟨Nat.zero_lt_one, fun k hk => absurd hk (by omega)⟩
  | succ n ih =>
    intro h
    obtain ⟨h1, h2⟩ := ih (fun k hk => h k (by omega))
    have hy := h n (by omega)
    have hp : 0 < 64 ^ n := Nat.pow_pos (by decide)
    rw [sumN]
    generalize sumN n (fun k => y k * 64 ^ k) = S at *
    refine ⟨?_, fun k hk => ?_⟩
    · have : y n * 64 ^ n ≤ 63 * 64 ^ n := Nat.mul_le_mul_right _ (by omega)
      rw [Nat.pow_succ]; omega
    · by_cases e : k = n
      · subst e
        rw [Nat.add_mul_div_right _ _ hp, Nat.div_eq_of_lt h1, Nat.zero_add, Nat.mod_eq_of_lt hy]
      · have hk2 : k < n := by omega
        have hpk : 0 < 64 ^ k := Nat.pow_pos (by decide)
        have e2 : y n * 64 ^ n = (y n * 64 ^ (n - k - 1) * 64) * 64 ^ k := by
          rw [Nat.mul_assoc, Nat.mul_assoc, Nat.mul_comm 64 (64 ^ k), ← Nat.pow_succ, ← Nat.pow_add, show n - k - 1 + (k + 1) = n by omega]
        rw [e2, Nat.add_mul_div_right _ _ hpk, Nat.add_mul_mod_self_right, h2 k hk2]
theorem wayAt_conv {y : Nat → Nat} {pl : List Nat} {k : Nat} (hk : k < 25) : wayAt ((List.range 25).map (fun k => ((y k : Nat) : Int))) pl k = ((conv y pl k : Nat) : Int) := by
  unfold wayAt
  induction pl with
  | nil => rfl
  | cons p r ih =>
    rw [conv_cons, List.filter_cons]
    by_cases h : p ≤ k
    · rw [if_pos (decide_eq_true h), List.map_cons, List.sum_cons, ih, if_pos h, Int.natCast_add]
      congr 1
      rw [List.getD_eq_getElem?_getD, List.getElem?_map, List.getElem?_range (by omega)]
      rfl
    · rw [if_neg (by simpa using h), ih, if_neg h, Nat.zero_add]
theorem stY_N (ns : List Nat) : stY ns = (List.range 25).map (fun k => ((stN ns k : Nat) : Int)) := by
  induction ns using snoc_ind with
  | h0 => decide +kernel
  | h1 l a ih =>
    have e : stY (l ++ [a]) = waysF (stY l) (plcN a) := by unfold stY; rw [List.foldl_append]; rfl
    rw [e, ih, stN_snoc]
    unfold waysF
    exact List.map_congr_left (fun k hk => wayAt_conv (List.mem_range.mp hk))
theorem xor_bits (x j : Nat) : ∀ (l : List Nat) (a : Nat), (l.foldl (fun a k => a ^^^ (x * 2 ^ k)) a).testBit j = decide (((a.testBit j).toNat + conv (fun i => (x.testBit i).toNat) l j) % 2 = 1) := by
  intro l
  induction l with
  | nil => intro a; rw [conv_nil, List.foldl_nil]; cases a.testBit j <;> rfl
  | cons p r ih =>
    intro a
    rw [List.foldl_cons, ih, conv_cons, Nat.testBit_xor, Nat.testBit_mul_two_pow]
    by_cases h : p ≤ j
    · rw [if_pos h, decide_eq_true h, Bool.true_and]
      cases a.testBit j <;> cases x.testBit (j - p) <;> simp <;> omega
    · rw [if_neg h, decide_eq_false h, Bool.false_and]
      cases a.testBit j <;> simp
theorem conv_mod {y z : Nat → Nat} (pl : List Nat) (k : Nat) (h : ∀ j, j ≤ k → y j % 2 = z j % 2) : conv y pl k % 2 = conv z pl k % 2 := by
  induction pl with
  | nil => rfl
  | cons p r ih =>
    rw [conv_cons, conv_cons]
    split
    · have := h (k - p) (by omega); omega
    · omega
theorem stW_snoc (l : List Nat) (n : Nat) : stW (l ++ [n]) = plainN (stW l) n := by
  unfold stW; rw [List.foldl_append]; rfl
theorem stW_bits (ns : List Nat) : ∀ k, (stW ns).testBit k = decide (stN ns k % 2 = 1) := by
  induction ns using snoc_ind with
  | h0 =>
    intro k
    show Nat.testBit 1 k = decide ((if k = 0 then 1 else 0) % 2 = 1)
    cases k with
    | zero => rfl
    | succ k => rw [Nat.testBit_succ]; simp
  | h1 l a ih =>
    intro k
    rw [stW_snoc, stN_snoc]
    unfold plainN
    rw [xor_bits, Nat.zero_testBit]
    rw [show (false.toNat) = 0 from rfl, Nat.zero_add]
    rw [conv_mod (z := stN l) _ k (fun j _ => by
      rw [ih j]
      rcases Nat.mod_two_eq_zero_or_one (stN l j) with e | e <;> simp [e])]
theorem stW_lt (ns : List Nat) : stW ns < 2 ^ (8 * ns.length + 1) := by
  refine Nat.lt_pow_two_of_testBit _ (fun i hi => ?_)
  rw [stW_bits, stN_support ns i (by omega)]; rfl
theorem numLaw : NumLaw := by
  intro ns hl _
  have hlt : ∀ k, k < 25 → stN ns k < 64 := fun k hk => Nat.lt_of_le_of_lt (Nat.le_trans (stN_le ns k) (fullN_61 ⟨ns.length, by omega⟩ ⟨k, hk⟩)) (by decide)
  have hf := figs 25 hlt
  have hP := stP_val ns hl
  unfold valN at hP
  rw [← hP] at hf
  refine ⟨hf.1, ?_, Nat.lt_of_lt_of_le (stW_lt ns) (Nat.pow_le_pow_right (by decide) (by omega)), fun h2 => Nat.lt_of_lt_of_le (stW_lt ns) (Nat.pow_le_pow_right (by decide) (by omega)), fun k hk => ?_⟩
  · rw [stY_N]
    exact List.map_congr_left (fun k hk => by rw [hf.2 k (List.mem_range.mp hk)])
  · rw [stW_bits, hf.2 k hk]

theorem at_SplitL : True := by
  w_top off
  exact trivial
section
open Builtin Builtin.Str StrLaws
/-- a text's signs as a list -/
abbrev sg (x : Str) : List Nat := x.cps.toList
theorem sg_append (x y : Str) : sg (x ++ y) = sg x ++ sg y := by simp [sg, Str.cps_append]
theorem sg_length (x : Str) : (sg x).length = x.length := by simp [sg, Str.length]
theorem sg_inj {x y : Str} (h : sg x = sg y) : x = y := Str.ext' (Array.toList_inj.mp h)
theorem at_iff {x y : Str} {k : Nat} : At x y x.length k ↔ sg y <+: (sg x).drop k ∧ k ≤ x.length := by
  unfold At
  rw [subAt_eq, beq_iff_eq]
  constructor
  · rintro ⟨h1, h2⟩
    refine ⟨?_, by omega⟩
    have h3 := List.take_prefix y.length ((sg x).drop k)
    rw [show List.take y.length (List.drop k (sg x)) = sg y from h2] at h3
    exact h3
  · rintro ⟨⟨r, hr⟩, hk⟩
    have hl := congrArg List.length hr
    simp only [List.length_append, List.length_drop, sg_length] at hl
    refine ⟨by omega, ?_⟩
    show ((sg x).drop k).take y.length = _
    rw [← hr, ← sg_length y, List.take_left]
/-- no occurrence of a begins within s, whatever follows -/
def Loc (a s : List Nat) : Prop := ∀ j, j < s.length → ∀ rest : List Nat, ¬ a <+: (s.drop j ++ rest)
def cutsOf (a : List Nat) : Nat → List (List Nat) → List Nat
  | _, [] => []
  | p, s :: r => if s = a then p :: cutsOf a (p + s.length) r else cutsOf a (p + s.length) r
def groupsOf (a : List Nat) : List Nat → List (List Nat) → List (List Nat)
  | cur, [] => [cur]
  | cur, s :: r => if s = a then cur :: groupsOf a [] r else groupsOf a (cur ++ s) r
theorem chain_segs {x y : Str} (hy : 1 ≤ y.length) : ∀ (segs : List (List Nat)) (pre : List Nat) (a0 : Nat), a0 ≤ pre.length → (∀ k, a0 ≤ k → k < pre.length → ¬ At x y x.length k) → sg x = pre ++ segs.flatten → (∀ s ∈ segs, s ≠ sg y → Loc (sg y) s) →
    ∃ f, ChainG x y x.length a0 (cutsOf (sg y) pre.length segs) f ∧ ∀ k, f ≤ k → ¬ At x y x.length k
  | [], pre, a0, ha, hn, hx, _ => by
    refine ⟨a0, rfl, fun k hk hA => ?_⟩
    have hl : x.length = pre.length := by rw [← sg_length, hx]; simp
    exact hn k hk (by have := hA.1; omega) hA
  | s :: r, pre, a0, ha, hn, hx, hl => by
    have hx2 : sg x = (pre ++ s) ++ r.flatten := by rw [hx, List.flatten_cons, List.append_assoc]
    have hlr : ∀ s ∈ r, s ≠ sg y → Loc (sg y) s := fun s hs => hl s (List.mem_cons_of_mem _ hs)
    have hpl : pre.length ≤ x.length := by rw [← sg_length, hx]; simp
    unfold cutsOf
    by_cases e : s = sg y
    · rw [if_pos e]
      have hA : At x y x.length pre.length := at_iff.mpr ⟨⟨r.flatten, by rw [hx2, ← e, List.append_assoc, List.drop_left]⟩, hpl⟩
      have hs : s.length = y.length := by rw [e, sg_length]
      obtain ⟨f, h1, h2⟩ := chain_segs hy r (pre ++ s) (pre.length + y.length) (by rw [List.length_append, hs]; exact Nat.le_refl _) (fun k h1 h2 => by rw [List.length_append, hs] at h2; omega) hx2 hlr
      rw [List.length_append] at h1
      refine ⟨f, ⟨ha, hA, fun k k1 k2 => hn k k1 k2, ?_⟩, h2⟩
      rw [← hs] at h1 ⊢
      exact h1
    · rw [if_neg e]
      have hL := hl s List.mem_cons_self e
      obtain ⟨f, h1, h2⟩ := chain_segs hy r (pre ++ s) a0 (by rw [List.length_append]; omega) (fun k k1 k2 => by
        by_cases hk : k < pre.length
        · exact hn k k1 hk
        · rw [List.length_append] at k2
          intro hA
          have h := (at_iff.mp hA).1
          have hd : (sg x).drop k = s.drop (k - pre.length) ++ r.flatten := by
            rw [hx2, List.append_assoc, List.drop_append, List.drop_eq_nil_of_le (by omega), List.nil_append, List.drop_append_of_le_length (by omega)]
          rw [hd] at h
          exact hL (k - pre.length) (by omega) _ h) hx2 hlr
      rw [List.length_append] at h1
      exact ⟨f, h1, h2⟩
theorem chainG_uniq {x y : Str} {hi : Nat} : ∀ (c1 c2 : List Nat) (a f1 f2 : Nat), ChainG x y hi a c1 f1 → (∀ k, f1 ≤ k → ¬ At x y hi k) → ChainG x y hi a c2 f2 → (∀ k, f2 ≤ k → ¬ At x y hi k) → c1 = c2
  | [], [], _, _, _, _, _, _, _ => rfl
  | [], d :: r, a, f1, f2, h1, t1, h2, _ => by
    have e : f1 = a := h1
    exact absurd h2.2.1 (t1 d (by have := h2.1; omega))
  | c :: r, [], a, f1, f2, h1, _, h2, t2 => by
    have e : f2 = a := h2
    exact absurd h1.2.1 (t2 c (by have := h1.1; omega))
  | c :: r, d :: r', a, f1, f2, h1, t1, h2, t2 => by
    have e : c = d := by
      rcases Nat.lt_trichotomy c d with q | q | q
      · exact absurd h1.2.1 (h2.2.2.1 c h1.1 q)
      · exact q
      · exact absurd h2.2.1 (h1.2.2.1 d h2.1 q)
    subst e
    rw [chainG_uniq r r' _ f1 f2 h1.2.2.2 t1 h2.2.2.2 t2]
theorem groups_segs {x y : Str} : ∀ (segs : List (List Nat)) (pre : List Nat) (a0 : Nat), a0 ≤ pre.length → sg x = pre ++ segs.flatten →
    (partsFrom x y.length a0 (cutsOf (sg y) pre.length segs)).map sg = groupsOf (sg y) (((sg x).drop a0).take (pre.length - a0)) segs
  | [], pre, a0, ha, hx => by
    have hl : x.length = pre.length := by rw [← sg_length, hx]; simp
    show [sg (strSub x a0 x.length)] = [_]
    rw [show sg (strSub x a0 x.length) = _ from strSub_toList x a0 x.length, hl]
  | s :: r, pre, a0, ha, hx => by
    have hx2 : sg x = (pre ++ s) ++ r.flatten := by rw [hx, List.flatten_cons, List.append_assoc]
    have hl : (pre ++ s).length = pre.length + s.length := List.length_append
    unfold cutsOf groupsOf
    by_cases e : s = sg y
    · rw [if_pos e, if_pos e]
      have hs : s.length = y.length := by rw [e, sg_length]
      have ih := groups_segs (y := y) r (pre ++ s) (pre.length + y.length) (by omega) hx2
      rw [hl, hs, Nat.sub_self, List.take_zero] at ih
      show sg (strSub x a0 pre.length) :: _ = _
      rw [show sg (strSub x a0 pre.length) = _ from strSub_toList x a0 pre.length, hs]
      exact congrArg _ ih
    · rw [if_neg e, if_neg e]
      have ih := groups_segs (y := y) r (pre ++ s) a0 (by omega) hx2
      rw [hl] at ih
      rw [ih]
      congr 1
      have hd : (sg x).drop a0 = pre.drop a0 ++ (s ++ r.flatten) := by rw [hx2, List.append_assoc, List.drop_append_of_le_length ha]
      have hpl : (pre.drop a0).length = pre.length - a0 := List.length_drop
      rw [hd, show pre.length + s.length - a0 = (pre.drop a0).length + s.length by omega, List.take_length_add_append, List.take_left, ← hpl, List.take_left]
theorem split_segs {x y : Str} {segs : List (List Nat)} (hy : 1 ≤ y.length) (hasc : y.cps.all (· < 256) = true) (hx : sg x = segs.flatten) (hl : ∀ s ∈ segs, s ≠ sg y → Loc (sg y) s) :
    (Txt.split x y).map sg = groupsOf (sg y) [] segs := by
  obtain ⟨f, hG, hn⟩ := chain_segs hy segs [] 0 (Nat.le_refl _) (fun k _ h => absurd h (Nat.not_lt_zero k)) (by rw [hx, List.nil_append]) hl
  obtain ⟨f', hG', hn'⟩ := occ_tight x y hy
  have ec : occurrences x y 0 x.length (x.length + 1) = cutsOf (sg y) 0 segs := chainG_uniq _ _ _ _ _ hG' hn' hG hn
  have hg := groups_segs (x := x) (y := y) segs [] 0 (Nat.le_refl _) (by rw [hx, List.nil_append])
  rw [List.length_nil, Nat.sub_self, List.take_zero] at hg
  rw [← hg, ← ec]
  have whole : occurrences x y 0 x.length (x.length + 1) = [] → ([x] : List Str).map sg = (partsFrom x y.length 0 (occurrences x y 0 x.length (x.length + 1))).map sg := by
    intro h
    rw [h]
    show [sg x] = [sg (strSub x 0 x.length)]
    rw [sub_whole]
  unfold Txt.split
  split
  · rename_i hc
    refine whole ?_
    rw [Bool.or_eq_true, decide_eq_true_eq, decide_eq_true_eq] at hc
    rcases hc with h | h
    · cases ho : occurrences x y 0 x.length (x.length + 1) with
      | nil => rfl
      | cons c r => rw [ho] at hG'; have := hG'.2.1.1; omega
    · exfalso
      have h1 : Builtin.Str.strKind y = 1 := by unfold Builtin.Str.strKind; rw [if_pos hasc]
      rw [h1] at h
      unfold Builtin.Str.strKind at h
      split at h
      · omega
      · split at h <;> omega
  · split
    · rename_i he
      exact whole (List.isEmpty_iff.mp he)
    · rw [partsBetween_eq]
def joinL (sep : List Nat) : List (List Nat) → List Nat
  | [] => []
  | [x] => x
  | x :: y :: r => x ++ sep ++ joinL sep (y :: r)
theorem join_sg (sep : Str) : ∀ l : List Str, sg (Txt.join sep l) = joinL (sg sep) (l.map sg) := by
  intro l
  show sg (glued sep l) = _
  rw [glued_eq_join]
  induction l with
  | nil => rfl
  | cons x r ih =>
    cases r with
    | nil => rfl
    | cons z r =>
      show sg (x ++ sep ++ Str.join sep (z :: r)) = _
      rw [sg_append, sg_append, ih]
      rfl
theorem groupsOf_ne (a : List Nat) : ∀ (segs : List (List Nat)) (cur : List Nat), ∃ g r, groupsOf a cur segs = g :: r
  | [], cur => ⟨_, _, rfl⟩
  | s :: r, cur => by
    unfold groupsOf
    by_cases e : s = a
    · rw [if_pos e]; exact ⟨_, _, rfl⟩
    · rw [if_neg e]; exact groupsOf_ne a r _
theorem joinL_groups (a b : List Nat) : ∀ (segs : List (List Nat)) (cur : List Nat), joinL b (groupsOf a cur segs) = cur ++ (segs.map (fun s => if s = a then b else s)).flatten
  | [], cur => by simp [groupsOf, joinL]
  | s :: r, cur => by
    unfold groupsOf
    rw [List.map_cons, List.flatten_cons]
    by_cases e : s = a
    · rw [if_pos e, if_pos e]
      obtain ⟨g, q, hg⟩ := groupsOf_ne a r []
      have ih := joinL_groups a b r []
      rw [hg] at ih ⊢
      show cur ++ b ++ joinL b (g :: q) = _
      rw [ih, List.nil_append, List.append_assoc]
    · rw [if_neg e, if_neg e, joinL_groups a b r, List.append_assoc]
/-- replace, where the text is made of segments and the old text begins nowhere but at a segment that is it -/
theorem repl_segs {x y b : Str} {segs : List (List Nat)} (hy : 1 ≤ y.length) (hasc : y.cps.all (· < 256) = true) (hx : sg x = segs.flatten) (hl : ∀ s ∈ segs, s ≠ sg y → Loc (sg y) s) :
    sg (Txt.join b (Txt.split x y)) = (segs.map (fun s => if s = sg y then sg b else s)).flatten := by
  rw [join_sg, split_segs hy hasc hx hl, joinL_groups, List.nil_append]
end

theorem at_TextL : True := by
  w_top off
  exact trivial
/-- a word: none of its signs is a bracket or a comma -/
def Wd (w : Str) : Prop := 91 ∉ sg w ∧ 93 ∉ sg w ∧ 44 ∉ sg w ∧ (∀ c ∈ sg w, c < 256) ∧ w.length ≤ 20
def brkL (w : Str) : List Nat := 91 :: (sg w ++ [93])
theorem brk_sg (w : Str) : sg (brk w) = brkL w := by
  unfold brk brkL
  rw [sg_append, sg_append, show sg (Str.ofString "[") = [91] by decide, show sg (Str.ofString "]") = [93] by decide]
  rfl
theorem brkL_inj {w v : Str} (h : brkL w = brkL v) : w = v := by
  unfold brkL at h
  exact sg_inj (List.append_cancel_right (List.cons.inj h).2)
theorem loc_head {h : Nat} {a s : List Nat} (hn : h ∉ s) : Loc (h :: a) s := by
  intro j hj rest hp
  cases hd : s.drop j with
  | nil => have := congrArg List.length hd; rw [List.length_drop, List.length_nil] at this; omega
  | cons x t =>
    rw [hd, List.cons_append] at hp
    obtain ⟨r, hr⟩ := hp
    have hx : h = x := (List.cons.inj hr).1
    exact hn (hx ▸ List.mem_of_mem_drop (hd ▸ List.mem_cons_self))
theorem pre_close : ∀ {a b rest : List Nat}, 93 ∉ a → 93 ∉ b → (a ++ [93]) <+: (b ++ 93 :: rest) → a = b
  | [], [], _, _, _, _ => rfl
  | [], y :: b, _, _, hb, h => by
    obtain ⟨r, hr⟩ := h
    exact absurd ((List.cons.inj hr).1 ▸ List.mem_cons_self) hb
  | x :: a, [], _, ha, _, h => by
    obtain ⟨r, hr⟩ := h
    exact absurd ((List.cons.inj hr).1 ▸ List.mem_cons_self) ha
  | x :: a, y :: b, rest, ha, hb, h => by
    obtain ⟨r, hr⟩ := h
    have e := List.cons.inj hr
    rw [e.1, pre_close (fun q => ha (List.mem_cons_of_mem _ q)) (fun q => hb (List.mem_cons_of_mem _ q)) ⟨r, e.2⟩]
theorem loc_brk {w v : Str} (hw : Wd w) (hv : Wd v) (hne : brkL v ≠ brkL w) : Loc (brkL w) (brkL v) := by
  intro j hj rest hp
  cases j with
  | zero =>
    obtain ⟨r, hr⟩ := hp
    have e : sg w ++ [93] ++ r = sg v ++ [93] ++ rest := (List.cons.inj hr).2
    refine hne ?_
    have := pre_close (rest := rest) hw.2.1 hv.2.1 ⟨r, by rw [e]; simp⟩
    rw [sg_inj this]
  | succ j =>
    have hn : 91 ∉ sg v ++ [93] := by
      intro hm
      rcases List.mem_append.mp hm with hm | hm
      · exact hv.1 hm
      · simp at hm
    exact loc_head hn j (by simpa [brkL] using hj) rest hp
def SegOk (s : List Nat) : Prop := (∃ w, Wd w ∧ s = brkL w) ∨ ∃ c, c ≠ 91 ∧ s = [c]
theorem loc_seg {w : Str} {s : List Nat} (hw : Wd w) (hs : SegOk s) (hne : s ≠ brkL w) : Loc (brkL w) s := by
  rcases hs with ⟨v, hv, rfl⟩ | ⟨c, hc, rfl⟩
  · exact loc_brk hw hv hne
  · exact loc_head (fun h => hc (List.mem_singleton.mp h).symm)
theorem seg_len {s : List Nat} (hs : SegOk s) : s.length ≤ 22 := by
  rcases hs with ⟨v, hv, rfl⟩ | ⟨c, hc, rfl⟩
  · have h1 := hv.2.2.2.2
    have h2 := sg_length v
    unfold brkL
    rw [List.length_cons, List.length_append, List.length_singleton, h2]; omega
  · show (1 : Nat) ≤ 22; decide
theorem segs_len : ∀ {segs : List (List Nat)}, (∀ s ∈ segs, SegOk s) → segs.flatten.length ≤ 22 * segs.length
  | [], _ => by simp
  | s :: r, h => by
    have h1 := seg_len (h s List.mem_cons_self)
    have h2 := segs_len (fun t ht => h t (List.mem_cons_of_mem _ ht))
    rw [List.flatten_cons, List.length_append, List.length_cons]; omega
def stepL (g : Str → Nat) (ws : List Str) (s : List Nat) : List Nat := ws.foldl (fun s w => if s = brkL w then [g w] else s) s
def pairsG (g : Str → Nat) (ws : List Str) : List Str := ws.flatMap (fun w => [brk w, chrS (g w)])
theorem brk_asc {w : Str} (hw : Wd w) : (brk w).cps.all (· < 256) = true := by
  rw [← Array.all_toList, List.all_eq_true]
  intro c hc
  have hc' : c ∈ brkL w := brk_sg w ▸ hc
  unfold brkL at hc'
  rcases List.mem_cons.mp hc' with rfl | hc'
  · decide
  · rcases List.mem_append.mp hc' with h | h
    · exact decide_eq_true (hw.2.2.2.1 c h)
    · rw [List.mem_singleton.mp h]; decide
theorem rep_words (g : Str → Nat) (hg : ∀ w, g w ≠ 91) (rest : List Str) (P : Str → Prop) : ∀ (ws : List Str) (segs : List (List Nat)) (x : Str), (∀ w ∈ ws, Wd w) → segs.length ≤ 50 → (∀ s ∈ segs, SegOk s) → sg x = segs.flatten →
    (∀ x', (∀ s ∈ segs.map (stepL g ws), SegOk s) → sg x' = (segs.map (stepL g ws)).flatten → ReplOk x' rest ∧ P (replT x' rest)) → ReplOk x (pairsG g ws ++ rest) ∧ P (replT x (pairsG g ws ++ rest))
  | [], segs, x, _, _, hs, hx, h => by
    have e : segs.map (stepL g []) = segs := List.map_id segs
    rw [e] at h
    exact h x hs hx
  | w :: r, segs, x, hw, hl, hs, hx, h => by
    have hw0 := hw w List.mem_cons_self
    have hb1 : 1 ≤ (brk w).length := by rw [← sg_length, brk_sg]; unfold brkL; simp
    have hr := repl_segs (b := chrS (g w)) hb1 (brk_asc hw0) hx (fun s hs1 hne => by rw [brk_sg] at hne ⊢; exact loc_seg hw0 (hs s hs1) hne)
    rw [brk_sg, show sg (chrS (g w)) = [g w] from rfl] at hr
    have hs2 : ∀ s ∈ segs.map (fun s => if s = brkL w then [g w] else s), SegOk s := by
      intro s hs1
      obtain ⟨t, ht, rfl⟩ := List.mem_map.mp hs1
      split
      · exact Or.inr ⟨_, hg w, rfl⟩
      · exact hs t ht
    have e : (segs.map (fun s => if s = brkL w then [g w] else s)).map (stepL g r) = segs.map (stepL g (w :: r)) := by
      rw [List.map_map]; rfl
    have ih := rep_words g hg rest P r (segs.map (fun s => if s = brkL w then [g w] else s)) _ (fun v hv => hw v (List.mem_cons_of_mem _ hv)) (by rw [List.length_map]; exact hl) hs2 hr (by rw [e]; exact h)
    have hxl : x.length ≤ 2000 := by
      have := segs_len hs
      rw [← sg_length, hx]; omega
    exact ⟨⟨hxl, hb1, by show (1 : Nat) ≤ 10; decide, ih.1⟩, ih.2⟩
theorem stepL_char (g : Str → Nat) (c : Nat) : ∀ ws : List Str, stepL g ws [c] = [c]
  | [] => rfl
  | w :: r => by
    have hne : ¬ [c] = brkL w := by
      intro h
      have := congrArg List.length h
      unfold brkL at this
      simp at this
    show stepL g r (if [c] = brkL w then [g w] else [c]) = _
    rw [if_neg hne]
    exact stepL_char g c r
theorem stepL_hit (g : Str → Nat) (v : Str) : ∀ ws : List Str, v ∈ ws → stepL g ws (brkL v) = [g v]
  | [], h => by cases h
  | w :: r, h => by
    show stepL g r (if brkL v = brkL w then [g w] else brkL v) = _
    by_cases e : brkL v = brkL w
    · rw [if_pos e, stepL_char, brkL_inj e]
    · rw [if_neg e]
      rcases List.mem_cons.mp h with rfl | h
      · exact absurd rfl e
      · exact stepL_hit g v r h
theorem stepL_miss (g : Str → Nat) (v : Str) : ∀ ws : List Str, v ∉ ws → stepL g ws (brkL v) = brkL v
  | [], _ => rfl
  | w :: r, h => by
    show stepL g r (if brkL v = brkL w then [g w] else brkL v) = _
    rw [if_neg (fun e => h (by rw [brkL_inj e]; exact List.mem_cons_self))]
    exact stepL_miss g v r (fun q => h (List.mem_cons_of_mem _ q))
/-- the words -/
theorem W_wd {k : Nat} (h : k < 32) : Wd (Mine.W k) := by
  have a1 : ∀ k : Fin 32, 91 ∉ sg (Mine.W k.val) ∧ 93 ∉ sg (Mine.W k.val) ∧ 44 ∉ sg (Mine.W k.val) := by decide +kernel
  have a2 : ∀ k : Fin 32, ∀ c ∈ sg (Mine.W k.val), c < 256 := by decide +kernel
  have := a1 ⟨k, h⟩
  exact ⟨this.1, this.2.1, this.2.2, a2 ⟨k, h⟩, W_len k⟩
theorem W_inj {i j : Nat} (hi : i < 32) (hj : j < 32) (h : Mine.W i = Mine.W j) : i = j := by
  have a : ∀ i j : Fin 32, Mine.W i.val = Mine.W j.val → i.val = j.val := by decide +kernel
  exact a ⟨i, hi⟩ ⟨j, hj⟩ h
theorem W_ne0 {i : Nat} (hi : i < 32) : Mine.W i ≠ Str.ofString "0x0" := by
  have a : ∀ i : Fin 32, Mine.W i.val ≠ Str.ofString "0x0" := by decide +kernel
  exact a ⟨i, hi⟩
theorem zero_wd : Wd (Str.ofString "0x0") := by
  have a1 : 91 ∉ sg (Str.ofString "0x0") ∧ 93 ∉ sg (Str.ofString "0x0") ∧ 44 ∉ sg (Str.ofString "0x0") := by decide +kernel
  have a2 : ∀ c ∈ sg (Str.ofString "0x0"), c < 256 := by decide +kernel
  exact ⟨a1.1, a1.2.1, a1.2.2, a2, by decide⟩
/-- the words told -/
def toldW (n pl : Nat) : List Str := if n = 0 then [Str.ofString "0x0"] else (bitsN 9 n).map (fun k => Mine.W (pl + k))
theorem bits_shift {n pl : Nat} (hn : n < 512) (hpl : pl < 24) : bitsN 32 (n * 2 ^ pl) = (bitsN 9 n).map (fun k => pl + k) := by
  have h9 : bitsN (9 + (23 - pl)) n = bitsN 9 n := bitsN_stop (Nat.div_eq_of_lt (by omega))
  rw [← h9]
  unfold bitsN
  rw [show 32 = pl + (9 + (23 - pl)) by omega, List.range_add, List.filter_append, List.filter_map]
  have e1 : (List.range pl).filter (fun k => (n * 2 ^ pl).testBit k) = [] := by
    rw [List.filter_eq_nil_iff]
    intro k hk
    have := List.mem_range.mp hk
    rw [Nat.testBit_mul_two_pow, decide_eq_false (by omega), Bool.false_and]
    decide
  rw [e1, List.nil_append]
  congr 1
  refine List.filter_congr (fun k _ => ?_)
  show (n * 2 ^ pl).testBit (pl + k) = _
  rw [Nat.testBit_mul_two_pow, decide_eq_true (by omega), Bool.true_and, Nat.add_sub_cancel_left]
def segsC : List Str → List (List Nat)
  | [] => []
  | [w] => [sg w]
  | w :: v :: r => sg w :: [44, 32] :: segsC (v :: r)
theorem segsC_flat : ∀ ws : List Str, (segsC ws).flatten = joinL [44, 32] (ws.map sg)
  | [] => rfl
  | [w] => by simp [segsC, joinL]
  | w :: v :: r => by
    have ih := segsC_flat (v :: r)
    show sg w ++ ([44, 32] ++ (segsC (v :: r)).flatten) = sg w ++ [44, 32] ++ joinL [44, 32] (sg v :: r.map sg)
    rw [ih, List.append_assoc]; rfl
theorem segsC_mem : ∀ {ws : List Str} {s : List Nat}, s ∈ segsC ws → s = [44, 32] ∨ ∃ w ∈ ws, s = sg w
  | [], _, h => by cases h
  | [w], s, h => Or.inr ⟨w, List.mem_cons_self, List.mem_singleton.mp h⟩
  | w :: v :: r, s, h => by
    rcases List.mem_cons.mp h with rfl | h
    · exact Or.inr ⟨w, List.mem_cons_self, rfl⟩
    · rcases List.mem_cons.mp h with rfl | h
      · exact Or.inl rfl
      · rcases segsC_mem h with h | ⟨u, hu, e⟩
        · exact Or.inl h
        · exact Or.inr ⟨u, List.mem_cons_of_mem _ hu, e⟩
theorem sg_ne_sep {w : Str} (h : Wd w) : ¬ sg w = [44, 32] := fun e => h.2.2.1 (e ▸ List.mem_cons_self)
theorem segsC_groups : ∀ {ws : List Str}, ws ≠ [] → (∀ w ∈ ws, Wd w) → groupsOf [44, 32] [] (segsC ws) = ws.map sg
  | [], h, _ => absurd rfl h
  | [w], _, h => by
    have := sg_ne_sep (h w List.mem_cons_self)
    simp [segsC, groupsOf, this]
  | w :: v :: r, _, h => by
    have h1 := sg_ne_sep (h w List.mem_cons_self)
    have ih := segsC_groups (ws := v :: r) (by simp) (fun u hu => h u (List.mem_cons_of_mem _ hu))
    show groupsOf [44, 32] [] (sg w :: [44, 32] :: segsC (v :: r)) = _
    rw [groupsOf, if_neg h1, groupsOf, if_pos rfl, ih]
    rfl
theorem map_sg_inj : ∀ {l r : List Str}, l.map sg = r.map sg → l = r
  | [], [], _ => rfl
  | [], _ :: _, h => by cases h
  | _ :: _, [], h => by cases h
  | x :: l, y :: r, h => by
    have e := List.cons.inj h
    rw [sg_inj e.1, map_sg_inj e.2]
theorem split_join {ws : List Str} (hne : ws ≠ []) (hw : ∀ w ∈ ws, Wd w) : Txt.split (Txt.join (Str.ofString ", ") ws) (Str.ofString ", ") = ws := by
  have es : sg (Str.ofString ", ") = [44, 32] := by decide
  apply map_sg_inj
  rw [split_segs (segs := segsC ws) (by decide) (by decide +kernel) (by rw [join_sg, es, segsC_flat]) ?_, es, segsC_groups hne hw]
  intro s hs hns
  rw [es] at hns ⊢
  rcases segsC_mem hs with h | ⟨w, hw1, rfl⟩
  · exact absurd h hns
  · exact loc_head (hw w hw1).2.2.1
theorem bitsN_lt {k n i : Nat} (h : i ∈ bitsN k n) : i < k := List.mem_range.mp (List.mem_filter.mp h).1
theorem toldW_wd {n pl : Nat} (hpl : pl < 24) : ∀ w ∈ toldW n pl, Wd w := by
  intro w hw
  unfold toldW at hw
  split at hw
  · rw [List.mem_singleton.mp hw]; exact zero_wd
  · obtain ⟨k, hk, rfl⟩ := List.mem_map.mp hw
    exact W_wd (by have := bitsN_lt hk; omega)
theorem toldT_eq {n pl : Nat} (hn : n < 512) (hpl : pl < 24) : toldT n pl = toldW n pl := by
  unfold toldT toldW
  by_cases e : n = 0
  · subst e
    rw [if_pos rfl, Nat.zero_mul]
    decide +kernel
  · have hm : n * 2 ^ pl ≠ 0 := Nat.mul_ne_zero e (Nat.ne_of_gt (Nat.two_pow_pos _))
    rw [if_neg e]
    unfold flagsT
    rw [if_neg hm, bits_shift hn hpl, List.map_map]
    refine split_join ?_ (fun w hw => ?_)
    · intro h
      have hb : bitsN 9 n = [] := List.map_eq_nil_iff.mp h
      obtain ⟨i, hi⟩ := Nat.exists_testBit_of_ne_zero e
      have hi9 : i < 9 := by
        rcases Nat.lt_or_ge i 9 with q | q
        · exact q
        · rw [Nat.testBit_lt_two_pow (Nat.lt_of_lt_of_le hn (Nat.pow_le_pow_right (n := 2) (by decide) q))] at hi; cases hi
      have hmm : i ∈ bitsN 9 n := List.mem_filter.mpr ⟨List.mem_range.mpr hi9, hi⟩
      rw [hb] at hmm; cases hmm
    · obtain ⟨k, hk, rfl⟩ := List.mem_map.mp hw
      exact W_wd (by have := bitsN_lt hk; show pl + k < 32; omega)
theorem mem_told {n pl j : Nat} (hpl : pl < 24) (hj : j < 9) : Mine.W (pl + j) ∈ toldW n pl ↔ n.testBit j = true := by
  unfold toldW
  by_cases e : n = 0
  · subst e
    rw [if_pos rfl, Nat.zero_testBit, List.mem_singleton]
    exact ⟨fun h => absurd h (W_ne0 (by omega)), fun h => by cases h⟩
  · rw [if_neg e, List.mem_map]
    constructor
    · rintro ⟨k, hk, h⟩
      have hk9 := bitsN_lt hk
      have := W_inj (by omega) (by omega) h
      have ekj : k = j := by omega
      subst ekj
      exact (List.mem_filter.mp hk).2
    · intro h
      exact ⟨j, List.mem_filter.mpr ⟨List.mem_range.mpr hj, h⟩, rfl⟩
def gF (lo : Str) (fig : Nat) (w : Str) : Nat := if w = lo then fig else 64 + fig
theorem pairsT_G (lo : Str) (fig : Nat) (ws : List Str) : pairsT lo fig ws = pairsG (gF lo fig) ws := by
  unfold pairsT pairsG
  congr 1
  funext w
  unfold pairT gF
  split <;> rfl
theorem gF_ne {lo : Str} {fig : Nat} (h : fig < 2) (w : Str) : gF lo fig w ≠ 91 := by
  unfold gF
  split <;> omega
theorem joinL_nil : ∀ l : List (List Nat), joinL [] l = l.flatten
  | [] => rfl
  | [x] => by simp [joinL]
  | x :: y :: r => by
    have ih := joinL_nil (y :: r)
    show x ++ [] ++ joinL [] (y :: r) = x ++ (y :: r).flatten
    rw [ih, List.append_nil]
theorem sg_row (pl : Nat) : sg (rowT pl) = ((List.range 9).map (fun i => brkL (Mine.W (pl + (8 - i))))).flatten := by
  unfold rowT
  rw [join_sg, show sg (Str.ofString "") = [] by decide, joinL_nil]
  unfold rowL
  rw [List.map_map]
  congr 1
  refine List.map_congr_left (fun i _ => ?_)
  exact brk_sg _
theorem flat_single (l : List Nat) (f : Nat → Nat) : (l.map (fun i => [f i])).flatten = l.map f := by
  induction l with
  | nil => rfl
  | cons a r ih => rw [List.map_cons, List.flatten_cons, ih]; rfl
theorem WS_mem {pl j : Nat} (hj : j < 9) : Mine.W (pl + j) ∈ WS pl := List.mem_map.mpr ⟨j, List.mem_range.mpr hj, rfl⟩
theorem step_all {n pl i : Nat} (hpl : pl < 24) (hi : i < 9) : stepL (gF (Mine.W pl) 0) (WS pl) (stepL (gF (Mine.W pl) 1) (toldW n pl) (brkL (Mine.W (pl + (8 - i))))) = [(if i = 8 then 0 else 64) + (if n.testBit (8 - i) then 1 else 0)] := by
  have hlo : (Mine.W (pl + (8 - i)) = Mine.W pl) ↔ i = 8 := by
    constructor
    · intro h
      have := W_inj (by omega) (by omega) h
      omega
    · rintro rfl; rfl
  by_cases hb : n.testBit (8 - i) = true
  · rw [stepL_hit _ _ _ ((mem_told hpl (by omega)).mpr hb), stepL_char, if_pos hb]
    unfold gF
    by_cases e : i = 8
    · rw [if_pos (hlo.mpr e), if_pos e]
    · rw [if_neg (fun h => e (hlo.mp h)), if_neg e]
  · rw [stepL_miss _ _ _ (fun h => hb ((mem_told hpl (by omega)).mp h)), stepL_hit _ _ _ (WS_mem (by omega)), if_neg hb]
    unfold gF
    by_cases e : i = 8
    · rw [if_pos (hlo.mpr e), if_pos e]
    · rw [if_neg (fun h => e (hlo.mp h)), if_neg e]
theorem textLaw : TextLaw := by
  intro n pl hn hpl
  have ht := toldT_eq hn hpl
  have hW : ∀ w ∈ WS pl, Wd w := by
    intro w hw
    obtain ⟨k, hk, rfl⟩ := List.mem_map.mp hw
    exact W_wd (by have := List.mem_range.mp hk; omega)
  refine ⟨?_, ?_, ?_⟩
  · rw [ht]
    unfold toldW
    split
    · decide
    · rw [List.length_map]; exact Nat.le_trans (bitsN_length 9 n) (by decide)
  · rw [ht]
    intro x hx
    exact Nat.le_trans (toldW_wd hpl x hx).2.2.2.2 (by decide)
  · unfold pairsA
    rw [ht, pairsT_G, pairsT_G]
    refine rep_words (gF (Mine.W pl) 1) (gF_ne (by decide)) (pairsG (gF (Mine.W pl) 0) (WS pl)) (fun y => y = ⟨(octs n).toArray⟩) (toldW n pl) _ (rowT pl) (toldW_wd hpl) (by rw [List.length_map, List.length_range]; decide) ?_ (sg_row pl) ?_
    · intro s hs
      obtain ⟨i, hi, rfl⟩ := List.mem_map.mp hs
      exact Or.inl ⟨_, W_wd (by omega), rfl⟩
    · intro x1 hs1 hx1
      have h2 := rep_words (gF (Mine.W pl) 0) (gF_ne (by decide)) [] (fun y => y = ⟨(octs n).toArray⟩) (WS pl) _ x1 hW (by rw [List.length_map, List.length_map, List.length_range]; decide) hs1 hx1 (fun x2 _ hx2 => ⟨trivial, ?_⟩)
      · rw [List.append_nil] at h2; exact h2
      · show x2 = _
        apply sg_inj
        rw [hx2, List.map_map, List.map_map]
        show _ = octs n
        unfold octs
        rw [← flat_single]
        congr 1
        exact List.map_congr_left (fun i hi => step_all hpl (List.mem_range.mp hi))

theorem at_Fin : True := by
  w_top off
  exact trivial
theorem law_holds (TL : TextLaw) : PySem.Challenge.rw_ph0017_01.Holds := hd (by
  k_go0
  all_goals (try k_fold)
  (rename Fr _ _ _ _ => F0)
  (rename News _ _ _ _ => N0)
  (rename Frag.In _ _ => X0)
  (rename Top _ _ _ _ _ _ => T0)
  (rename Below _ _ _ _ => B0)
  (rename Heap.IsList _ _ _ => L0)
  (rename IntsAre _ _ => I0)
  (rename ¬ _ < _ => len0)
  dsimp only
  refine law_A _ _ _ _ _ _ _ _ _ _ _ _ _ _ _ _ _ _ _ B0 X0 T0 L0 I0 (by omega) (Fr.conv F0 ?f) N0 (by assumption) (by assumption) (by assumption) (by assumption) (by assumption) ?hE ?_
  case f => rfl
  case hE => passes_own
  refine law_B TL _ _ _ _ _ _ _ _ _ _ _ _ _ _ B0 X0 T0 (by assumption) (by assumption) ?hE ?_
  case hE => passes_own
  refine law_C numLaw _ _ _ _ _ _ _ _ _ _ _ _ B0 X0 T0 (by assumption) ?hE ?_
  case hE => passes_own
  intro h tk m F9
  k_steps)

end Mine
set_option maxRecDepth 100000 in
set_option maxHeartbeats 8000000 in
theorem PySem.Challenge.cw_ph0017_01_holds : PySem.Challenge.rw_ph0017_01.Holds := by
  exact Mine.law_holds Mine.textLaw
