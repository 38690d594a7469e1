import PyProof.Rows.All
import Wide.All
import OpenK.AllK
import Wide.FinOn
import PySem.Challenge.RW_pd0167_01
set_option Elab.async false
set_option linter.unusedVariables false
set_option linter.unusedSimpArgs false
set_option maxRecDepth 100000
set_option maxHeartbeats 8000000

section
open PySem PySem.W PyProof.Rows
namespace Mine
theorem find_same : Manifest.find? = Manifest.find? := rfl
name_quick tw8075568018651887793 for Manifest.find? by find_same
name_quick tw1656373992539423060 for Manifest.find? by find_same
name_quick tw14979626087600564940 for Manifest.find? by find_same
name_quick tw15832565104096599602 for Manifest.find? by find_same
name_quick tw3102773954261801767 for Manifest.find? by find_same
name_quick tw8303831635834835207 for Manifest.find? by find_same
name_quick tw11502282260701905712 for Manifest.find? by find_same
name_quick tw8555734327229750603 for Manifest.find? by find_same
name_quick tw1363108873445748576 for Manifest.find? by find_same
name_quick tw8929175847862630378 for Manifest.find? by find_same
name_quick tw16487347958798203451 for Manifest.find? by find_same
name_quick tw2640157258506576901 for Manifest.find? by find_same
open_top hd for PySem.Challenge.rw_pd0167_01
end Mine
end

section
open PySem PySem.W PyProof.Rows PySem.Calls PySem.Spec
set_option Elab.async false
set_option maxRecDepth 100000
set_option maxHeartbeats 8000000
namespace Mine
theorem walk_start_B0 : True := by w_top off; trivial

/-- the order of (price, name) pairs -/
def ltP (p q : Int × Str) : Bool := if p.1 = q.1 then (if p.2 = q.2 then false else decide (p.2.cps.toList < q.2.cps.toList)) else decide (p.1 < q.1)

abbrev pairO (i : Int) (t : Tok) (x : Str) (u : Tok) (n : Nat) : Obj := { cls := .type "tuple", data := .seq #[.int i t, .str x u] n }

section
variable {prog : Program} {w : World} {A : Around} {E : Value → Shared → Prop} {s : Shared}

theorem lt_pair_tree {a b : Addr} {i j : Int} {t u t' u' : Tok} {x y : Str} {n n' : Nat} {P : Fin → Shared → Prop}
    (ha : s.heap.get? a = some (pairO i t x u n)) (hb : s.heap.get? b = some (pairO j t' y u' n')) (h : P (.done (.ret (.bool (ltP (i, x) (j, y))))) s) :
    wpAny (model prog w) A (Builtin.«tuple.__lt__» ⟨[.ref a, .ref b], []⟩) P E s := by
  show wpAny _ _ (isInstance (.ref b) (.type "tuple") >>= _) _ _ s
  refine wpAny_bind (wpAny_isInstance (T := "tuple") ⟨_, hb, rfl⟩ isSubtype_tuple_tuple ?_)
  simp only [Bool.not_true, Bool.false_eq_true, if_false]
  refine wpAny_bind (wpAny_tupleItemsOf ha rfl ?_)
  refine wpAny_bind (wpAny_tupleItemsOf hb rfl ?_)
  refine wpAny_bind ?_
  show wpAny _ _ (forIn [(Value.int i t, Value.int j t'), (Value.str x u, Value.str y u')] _ _) _ _ s
  rw [List.forIn_cons]
  unfold ltP at h
  refine wpAny_bind (wpAny_bind (wpAny_eqBool_int ?_))
  by_cases hij : i = j
  · subst hij
    simp only [beq_self_eq_true, Bool.not_true, Bool.false_eq_true, if_false]
    refine wpAny_pure ?_
    simp only []
    rw [List.forIn_cons]
    refine wpAny_bind (wpAny_bind (wpAny_eqBool_str ?_))
    by_cases hxy : x = y
    · subst hxy
      simp only [decide_true, Bool.not_true, Bool.false_eq_true, if_false]
      refine wpAny_pure ?_
      simp only [List.forIn_nil]
      refine wpAny_pure ?_
      refine wpAny_pure ?_
      have h' : P (.done (.ret (.bool false))) s := by simpa using h
      exact h'
    · simp only [hxy, decide_false, Bool.not_false, if_true]
      refine wpAny_bind (wpAny_rule (wpAny_bind (lt_str ?_)))
      refine wpAny_bind (wpAny_pure (wpAny_pure (wpAny_pure (wpAny_pure ?_))))
      simpa [hxy] using h
  · have e : (i == j) = false := by simpa using hij
    simp only [e, Bool.not_false, if_true]
    refine wpAny_bind (wpAny_rule (wpAny_bind (lt_int ?_)))
    refine wpAny_bind (wpAny_pure (wpAny_pure (wpAny_pure (wpAny_pure ?_))))
    simpa [hij] using h

theorem lt_pair {a b : Addr} {i j : Int} {t u t' u' : Tok} {x y : Str} {n n' : Nat} {Q : Value → Shared → Prop}
    (ha : s.heap.get? a = some (pairO i t x u n)) (hb : s.heap.get? b = some (pairO j t' y u' n')) (hu : A.units < cLine) (h : Q (.bool (ltP (i, x) (j, y))) s) :
    wpAny (model prog w) A (compareOp .Lt (.ref a) (.ref b)) Q E s := by
  refine richCompare_meets_room (op := .Lt) (T := "tuple") ⟨_, ha, rfl⟩ ⟨_, hb, rfl⟩ F.slot_tuple_lt F.entry_tuple_lt (F.args_tuple_lt_2 _ _)
    (S := fun _ R s => s.heap.get? a = some (pairO i t x u n) ∧ s.heap.get? b = some (pairO j t' y u' n') ∧ R (.ok (.ret (.bool (ltP (i, x) (j, y))))) s) ?_ ⟨ha, hb, ?_⟩ hu
  · intro prog w A R s hs
    exact lt_pair_tree hs.1 hs.2.1 hs.2.2
  · exact ⟨(fun z => nomatch z), h⟩
end
inductive WNext (h₀ : Heap) (L : Addr) (gs : Array GenState) (dr : Drawn) (os : OsState) (J : Nat → (Str → Option Value) → List (Addr × Obj) → Prop) (n : Nat) (s₃ : Shared) : Prop where
  | mk (h' : Heap) (tk : Tok) (m₂ : Str → Option Value) (news₂ : List (Addr × Obj)) (n' : Nat) : s₃ = ⟨h', gs, dr, tk, os⟩ → Fr h₀ L h' m₂ → News h₀ L h' news₂ → n' < n → J n' m₂ news₂ → WNext h₀ L gs dr os J n s₃
/-- the end of a turn of a while -/
def WEnd (h₀ : Heap) (L : Addr) (s : Shared) (J : Nat → (Str → Option Value) → List (Addr × Obj) → Prop) (Q : Flow → Shared → Prop) (n : Nat) (f : Flow) (s₃ : Shared) : Prop :=
  match f with
  | .next | .cont => WNext h₀ L s.gens s.drawn s.os J n s₃
  | .brk => Q .next s₃
  | .ret v => Q (.ret v) s₃
theorem While_inv3 {prog : Program} {w : World} {A : Around} {E : Value → Shared → Prop} {Q : Flow → Shared → Prop} {s : Shared} {env : Env} {h₀ : Heap} {L : Addr} {test : PySem.Expr} {body : List Stmt} {pos : Pos} {m : Str → Option Value} {news : List (Addr × Obj)}
    (J : Nat → (Str → Option Value) → List (Addr × Obj) → Prop) {n₀ : Nat} (F : Fr h₀ L s.heap m) (N : News h₀ L s.heap news) (hJ : J n₀ m news)
    (turn : ∀ n m₁ news₁ h₁ tk₁, Fr h₀ L h₁ m₁ → News h₀ L h₁ news₁ → J n m₁ news₁ → wpAny (model prog w) A (isTrue test env (eval test env)) (fun b s₂ => if b = true then wpAny (model prog w) A (execs body env) (WEnd h₀ L s J Q n) E s₂ else Q .next s₂) E { s with heap := h₁, toks := tk₁ })
    (hE : PassesOwn (model prog w) A env E := by passes_own) : wpAny (model prog w) A (exec (.While test body [] pos) env) Q E s := by
  refine While_inv2 J F N hJ (fun n m₁ news₁ h₁ tk₁ F₁ N₁ J₁ => wpAny_mono (turn n m₁ news₁ h₁ tk₁ F₁ N₁ J₁) (fun b s₂ h => ?_) fun _ _ e => e) hE
  cases b with
  | false => exact h
  | true =>
    simp only [if_true] at h ⊢
    refine wpAny_mono h (fun f s₃ h₃ => ?_) fun _ _ e => e
    cases f with
    | next => obtain ⟨h', tk, m₂, news₂, n', e, F₂, N₂, hn, J₂⟩ := h₃; exact ⟨h', tk, m₂, news₂, n', e, F₂, N₂, hn, J₂⟩
    | cont => obtain ⟨h', tk, m₂, news₂, n', e, F₂, N₂, hn, J₂⟩ := h₃; exact ⟨h', tk, m₂, news₂, n', e, F₂, N₂, hn, J₂⟩
    | brk => exact h₃
    | ret v => exact h₃
end Mine
end

section
open PySem PySem.W PyProof.Rows PySem.Calls PySem.Spec
set_option Elab.async false
set_option maxRecDepth 100000
set_option maxHeartbeats 8000000
set_option pp.deepTerms false
set_option pp.deepTerms.threshold 4
set_option pp.maxSteps 20000
namespace Mine
theorem walk_start_B1 : True := by w_top off; trivial
local macro_rules | `(tactic| k_steps) => `(tactic| repeat' (
  (fail_if_success (with_reducible show wpAny _ _ (PySem.exec (Stmt.While _ _ _ _) _) _ _ _));
  (fail_if_success (with_reducible show wpAny _ _ (PySem.exec (Stmt.For _ _ _ _ _) _) _ _ _));
  (fail_if_success (with_reducible show wpAny _ _ (PySem.call (Value.ref _) _ _) _ _ _));
  (first | ((with_reducible show wpAny _ _ (PySem.exec _ _) _ _ _); k_fold) | (k_unfold; (try dsimp only)) | (k_end; kc_close) | walk1 | (dsimp only; walk1) | (leave1; walk_say "STEP leave1"; (try dsimp only)) | fail "no step")))

def ItemAt (rest : List (Addr × Obj)) (v : Value) (x : Int × Str) : Prop := ∃ a t u n, v = .ref a ∧ (a, pairO x.1 t x.2 u n) ∈ rest

inductive All2 {α β : Type} (R : α → β → Prop) : List α → List β → Prop where
  | nil : All2 R [] []
  | cons {a b l r} : R a b → All2 R l r → All2 R (a :: l) (b :: r)

theorem All2.length {α β : Type} {R : α → β → Prop} {l : List α} {r : List β} (h : All2 R l r) : l.length = r.length := by
  induction h with
  | nil => rfl
  | cons _ _ ih => simp [ih]
theorem All2.get {α β : Type} {R : α → β → Prop} {l : List α} {r : List β} (h : All2 R l r) : ∀ (i : Nat) (d : β), i < r.length → ∃ v, l[i]? = some v ∧ R v (r.getD i d) := by
  induction h with
  | nil => intro i d hi; simp at hi
  | cons h1 _ ih =>
    intro i d hi
    cases i with
    | zero => exact ⟨_, rfl, h1⟩
    | succ i => exact ih i d (by simpa using hi)
theorem All2.set {α β : Type} {R : α → β → Prop} {l : List α} {r : List β} (h : All2 R l r) : ∀ (i : Nat) (a : α) (b : β), R a b → All2 R (l.set i a) (r.set i b) := by
  induction h with
  | nil => intro i a b _; exact .nil
  | cons h1 hr ih =>
    intro i a b hab
    cases i with
    | zero => exact .cons hab hr
    | succ i => exact .cons h1 (ih i a b hab)

/-- what _siftdown leaves: x put in, from place pos up to st -/
def sdown (x : Int × Str) (st pos : Nat) (xs : List (Int × Str)) : List (Int × Str) :=
  if st < pos then
    if ltP x (xs.getD ((pos - 1) / 2) (0, Str.empty)) then sdown x st ((pos - 1) / 2) (xs.set pos (xs.getD ((pos - 1) / 2) (0, Str.empty))) else xs.set pos x
  else xs.set pos x
termination_by pos
decreasing_by omega

/-- a word that the walk leaves alone -/
def Hold (P : Prop) : Prop := P
theorem Hold.mk {P : Prop} (h : P) : Hold P := h
/-- a frame's map holds these names -/
def Has (m : Str → Option Value) : List (Str × Value) → Prop
  | [] => True
  | (k, v) :: r => m k = some v ∧ Has m r
def ovl (bs : List (Str × Value)) (m : Str → Option Value) : Str → Option Value := fun y => match bs.lookup y with | some v => some v | none => m y
theorem Has.ovl {m : Str → Option Value} : ∀ {bs : List (Str × Value)}, Has m bs → Mine.ovl bs m = m
  | [], _ => rfl
  | (k, v) :: r, h => by
    funext y
    have ih := congrFun (Has.ovl h.2) y
    unfold Mine.ovl at ih ⊢
    rw [List.lookup_cons]
    by_cases e : y = k
    · subst e; simp [h.1]
    · have : (y == k) = false := by simpa using e
      rw [this]; exact ih
theorem Fr.know {h₀ h : Heap} {L : Addr} {m : Str → Option Value} {bs : List (Str × Value)} (F : Fr h₀ L h m) (hb : Has m bs) : Fr h₀ L h (fun y => match bs.lookup y with | some v => some v | none => m y) := by
  have e := hb.ovl
  unfold ovl at e
  rw [e]; exact F

section
variable {prog : Program} {w : World} {A : Around} {E : Value → Shared → Prop} {s : Shared} {h₀ : Heap} {L : Addr} {m : Str → Option Value} {hp : Addr} {vs : List Value} {n : Nat} {rest : List (Addr × Obj)}
theorem set_head {k : Nat} {t : Tok} {v : Value} {Q : Unit → Shared → Prop} (F : Fr h₀ L s.heap m) (N : News h₀ L s.heap ((hp, listOf vs.toArray n) :: rest)) (hne : ∀ q ∈ rest, q.1 ≠ hp) (hk : k < vs.length) (hl : vs.length < 1000)
    (h : ∀ h', Fr h₀ L h' m → News h₀ L h' ((hp, listOf (vs.set k v).toArray n) :: rest) → Q () { s with heap := h' }) : wpAny (model prog w) A (setItem (.ref hp) (.int (k : Int) t) v) Q E s := by
  have z := N _ (List.Mem.head _)
  refine ki_setAt z.1 (by omega) (by omega) (by simpa using hk) (h _ (F.change (Heap.SameBut.update ..) z.2.1 z.2.2) (ki_turn (pre := []) _ N (fun _ h => nomatch h) hne ?_ ?_))
  · show vs.toArray.setIfInBounds (Int.toNat k) v = (vs.set k v).toArray
    apply Array.toList_inj.mp
    simp
  · simp
theorem lt_items {o : Obj} {own : List (Addr × Obj)} {v v2 : Value} {x y : Int × Str} {Q : Value → Shared → Prop} (hown : ∀ q ∈ own, q ∈ rest) (N : News h₀ L s.heap ((hp, o) :: rest)) (h1 : ItemAt own v x) (h2 : ItemAt own v2 y) (hu : A.units < cLine) (h : Q (.bool (ltP x y)) s) :
    wpAny (model prog w) A (compareOp .Lt v v2) Q E s := by
  obtain ⟨a1, t1, u1, n1, rfl, m1⟩ := h1
  obtain ⟨a2, t2, u2, n2, rfl, m2⟩ := h2
  exact lt_pair (N _ (.tail _ (hown _ m1))).1 (N _ (.tail _ (hown _ m2))).1 hu h
theorem sub_head {value slice : PySem.Expr} {k : Nat} {u : Tok} {v : Value} {Q : Value → Shared → Prop} (N : News h₀ L s.heap ((hp, listOf vs.toArray n) :: rest)) (hk : vs[k]? = some v) (hl : vs.length < 1000) (h : Q v s)
    (hs : subscripted slice false (.ref hp) (.int (k : Int) u) = operate [.ref hp, .int (k : Int) u] (getItem (.ref hp) (.int (k : Int) u)) := by with_unfolding_all rfl) :
    wpAny (model prog w) A (subscriptTail value slice (.ref hp) (.int (k : Int) u)) Q E s := by
  have hL := PySem.IsL.isList (N _ (List.Mem.head _)).1
  have hlt : k < vs.length := (List.getElem?_eq_some_iff.mp hk).1
  exact tail_any hL.typeIs slot_list_getitem.lookup (wpAny_getItem_list hL (by omega) (by omega) (by simpa using hk) h) hs
end

section
variable {w : World} {p : Program} {loose : List Str} {mean : ExcName → Option Value} {mg mb : Str → Option Value}
  {dp un : Nat} {gd : Option (List Code)} {cn : Str} {cs : Scope} {a : Addr} {ccd : Value} {cl : List (Str × Addr)} {outer : List Env} {A₀ : Around} {base h₀ : Heap} {L : Addr} {m : Str → Option Value} {s : Shared} {Q E : Value → Shared → Prop}

inductive SdPost (g' : Heap) (L' : Addr) (gs : Array GenState) (dr : Drawn) (os : OsState) (hp : Addr) (n : Nat) (rest own : List (Addr × Obj)) (v : Value) (x : Int × Str) (len : Nat) (fin : List (Int × Str)) (f : Flow) (s2 : Shared) : Prop where
  | mk : f = .next → ∀ (h2 : Heap) (tk2 : Tok) (m2 : Str → Option Value) (vs2 : List Value) (xs2 : List (Int × Str)) (ps2 : Nat) (t2 : Tok), s2 = ⟨h2, gs, dr, tk2, os⟩ → Fr g' L' h2 m2 → News g' L' h2 ((hp, listOf vs2.toArray n) :: rest) →
      Has m2 [(Str.ofString "heap", .ref hp), (Str.ofString "pos", .int ((ps2 : Nat) : Int) t2), (Str.ofString "newitem", v)] → All2 (ItemAt own) vs2 xs2 → ps2 < xs2.length → xs2.length = len → xs2.set ps2 x = fin → SdPost g' L' gs dr os hp n rest own v x len fin f s2
inductive SdInv (hp : Addr) (n : Nat) (rest own : List (Addr × Obj)) (v : Value) (st : Nat) (t1 : Tok) (x : Int × Str) (len : Nat) (fin : List (Int × Str)) (nn : Nat) (m1 : Str → Option Value) (news1 : List (Addr × Obj)) : Prop where
  | mk (vs1 : List Value) (xs1 : List (Int × Str)) (t1' : Tok) : news1 = (hp, listOf vs1.toArray n) :: rest → Has m1 [(Str.ofString "heap", .ref hp), (Str.ofString "pos", .int (nn : Int) t1'), (Str.ofString "newitem", v), (Str.ofString "startpos", .int (st : Int) t1)] →
      All2 (ItemAt own) vs1 xs1 → nn < xs1.length → xs1.length = len → sdown x st nn xs1 = fin → SdInv hp n rest own v st t1 x len fin nn m1 news1

theorem siftdown_walk {hp : Addr} {vs : List Value} {n : Nat} {rest own : List (Addr × Obj)} {xs : List (Int × Str)} {st ps : Nat} {t1 t2 : Tok}
    (B : Below A₀ base outer h₀) (F : Fr h₀ L s.heap m) (X : (hd.heap_39 w.params).In h₀) (N : News h₀ L s.heap ((hp, listOf vs.toArray n) :: rest)) (T : Top p loose mean mg mb h₀) (hk : cs.kind = .function)
    (hr : dp + 10 < recursionLimit) (hu : un + 80 < cLine) (hne : ∀ q ∈ rest, q.1 ≠ hp) (hown : ∀ q ∈ own, q ∈ rest) (hall : All2 (ItemAt own) vs xs) (hst : st ≤ ps) (hps : ps < xs.length) (hlen : xs.length < 1000)
    (ret : ∀ vs' h' tk', Fr h₀ L h' m → News h₀ L h' ((hp, listOf vs'.toArray n) :: rest) → All2 (ItemAt own) vs' (sdown (xs.getD ps (0, Str.empty)) st ps xs) → Q .none { s with heap := h', toks := tk' }) :
    wpAny (model Challenge.rw_pd0167_01.row.prog w) (ktrTop dp un gd cn cs L a ccd cl outer) (call (.ref 74) [.ref hp, .int st t1, .int ps t2]) Q E s := by
  revert X; k_fill; intro X
  refine wpAny_call ?_
  k_dflt cell_enter
  k_steps
  rename_i g' L' h' FG' F' N' B' X' T' _ _
  obtain ⟨v, hv, hI⟩ := hall.get ps (0, Str.empty) hps
  have hlen2 := hall.length
  have hL := PySem.IsL.isList (N' _ (List.Mem.head _)).1
  refine tail_any hL.typeIs slot_list_getitem.lookup (wpAny_getItem_list hL (by omega) (by omega) (by simpa using hv) ?_) (by with_unfolding_all rfl)
  k_steps
  rename_i h1 F1 N1
  refine wpAny_mono (Q := fun f s2 => Hold (SdPost g' L' s.gens s.drawn s.os hp n rest own v (xs.getD ps (0, Str.empty)) xs.length (sdown (xs.getD ps (0, Str.empty)) st ps xs) f s2)) ?loop ?after (fun _ _ h => h)
  case after =>
    rintro f s2 ⟨rfl, h2, tk2, m2, vs2, xs2, ps2, t2, rfl, F2, N2, hm2, hall2, hps2, hlen3, hfin⟩
    have F2' := Fr.know F2 hm2
    clear F2 F1 N1
    k_steps
    refine set_head F2' N2 hne (by have := hall2.length; omega) (by have := hall2.length; omega) ?_
    intro h3 F3 N3
    clear F2' N2
    k_steps
    refine ret _ _ _ (by assumption) (by assumption) ?_
    rw [← hfin]
    exact hall2.set _ _ _ hI
  refine While_inv3 (SdInv hp n rest own v st t1 (xs.getD ps (0, Str.empty)) xs.length (sdown (xs.getD ps (0, Str.empty)) st ps xs)) F1 N1 ⟨vs, xs, t2, rfl, ⟨rfl, rfl, rfl, rfl, trivial⟩, hall, hps, rfl, rfl⟩ ?_
  rintro nn m1 news1 h2 tk2 F2 N2 ⟨vs1, xs1, t1', rfl, hm1, hall1, hps1, hlen3, hfin⟩
  have F2' := Fr.know F2 hm1
  clear F2 F1 N1
  k_steps
  · rename_i hlt h3 F3 N3
    have e : ((nn : Int) - 1).fdiv (2 ^ (1 : Int).toNat) = (((nn - 1) / 2 : Nat) : Int) := by
      rw [Int.fdiv_eq_ediv_of_nonneg _ (by decide)]
      show ((nn : Int) - 1) / 2 = _
      omega
    rw [e] at F3 ⊢
    obtain ⟨v2, hv2, hI2⟩ := hall1.get ((nn - 1) / 2) (0, Str.empty) (by omega)
    have hlen4 := hall1.length
    refine sub_head N3 hv2 (by omega) ?_
    k_steps
    rename_i h4 F4 N4
    refine lt_items hown N4 hI hI2 (by show un + 3 < cLine; omega) ?_
    k_steps
    · rename_i hc
      refine set_head F4 N4 hne (by omega) (by omega) ?_
      intro h5 F5 N5
      clear F4 N4
      k_steps
      rename_i h6 F6 N6
      dsimp only [WEnd]
      refine ⟨h6, _, _, _, (nn - 1) / 2, rfl, F6, N6, by omega, _, _, _, rfl, ⟨rfl, rfl, rfl, rfl, trivial⟩, hall1.set nn _ _ hI2, by simp; omega, by simpa using hlen3, ?_⟩
      rw [← hfin]
      conv => rhs; rw [sdown, if_pos (by omega), if_pos hc]
    · rename_i hc
      dsimp only [WEnd]
      refine Hold.mk ⟨rfl, h4, _, _, vs1, xs1, nn, t1', rfl, F4, N4, ⟨rfl, rfl, rfl, trivial⟩, hall1, hps1, hlen3, ?_⟩
      rw [← hfin, sdown, if_pos (by omega), if_neg (by rw [hc]; exact Bool.false_ne_true)]
  · refine Hold.mk ⟨rfl, h2, tk2, _, vs1, xs1, nn, t1', rfl, F2', N2, ⟨rfl, rfl, rfl, trivial⟩, hall1, hps1, hlen3, ?_⟩
    rw [← hfin, sdown, if_neg (by omega)]
end
end Mine
end

section
open PySem PySem.W PyProof.Rows PySem.Calls PySem.Spec
set_option Elab.async false
set_option maxRecDepth 100000
set_option maxHeartbeats 8000000
set_option pp.deepTerms false
set_option pp.deepTerms.threshold 4
set_option pp.maxSteps 20000
namespace Mine
theorem walk_start_B2 : True := by w_top off; trivial
local macro_rules | `(tactic| k_steps) => `(tactic| repeat' (
  (fail_if_success (with_reducible show wpAny _ _ (PySem.exec (Stmt.While _ _ _ _) _) _ _ _));
  (fail_if_success (with_reducible show wpAny _ _ (PySem.exec (Stmt.For _ _ _ _ _) _) _ _ _));
  (fail_if_success (with_reducible show wpAny _ _ (PySem.call (Value.ref _) _ _) _ _ _));
  (fail_if_success (with_reducible show wpAny _ _ (subscriptTail _ _ (Value.ref _) (Value.int _ _)) _ _ _));
  (fail_if_success (with_reducible show wpAny _ _ (setItem (Value.ref _) (Value.int _ _) _) _ _ _));
  (fail_if_success (with_reducible show Hold _));
  (first | ((with_reducible show wpAny _ _ (PySem.exec _ _) _ _ _); k_fold) | (k_unfold; (try dsimp only)) | (k_end; kc_close) | walk1 | (dsimp only; walk1) | (leave1; walk_say "STEP leave1"; (try dsimp only)) | fail "no step")))

abbrev D0 : Int × Str := (0, Str.empty)
/-- the lesser child's place -/
def kid (c : Nat) (xs : List (Int × Str)) : Nat := if c + 1 < xs.length ∧ ltP (xs.getD c D0) (xs.getD (c + 1) D0) = false then c + 1 else c
/-- the way down of _siftup -/
def supL (pos : Nat) (xs : List (Int × Str)) : Nat × List (Int × Str) :=
  if 2 * pos + 1 < xs.length then supL (kid (2 * pos + 1) xs) (xs.set pos (xs.getD (kid (2 * pos + 1) xs) D0)) else (pos, xs)
termination_by xs.length - pos
decreasing_by
  simp only [List.length_set]
  unfold kid
  split <;> omega
def sup (x : Int × Str) (pos : Nat) (xs : List (Int × Str)) : List (Int × Str) := sdown x pos (supL pos xs).1 ((supL pos xs).2.set (supL pos xs).1 x)

theorem supL_ge (xs : List (Int × Str)) (pos : Nat) : pos ≤ (supL pos xs).1 := by
  rw [supL]
  split
  · have ih := supL_ge (xs.set pos (xs.getD (kid (2 * pos + 1) xs) D0)) (kid (2 * pos + 1) xs)
    have : pos < kid (2 * pos + 1) xs := by unfold kid; split <;> omega
    omega
  · exact Nat.le_refl _
termination_by xs.length - pos
decreasing_by
  simp only [List.length_set]
  unfold kid
  split <;> omega

section
variable {prog : Program} {w : World} {A : Around} {E : Value → Shared → Prop} {s : Shared} {h₀ : Heap} {L : Addr} {m : Str → Option Value} {l : Addr} {vs : List Value} {n : Nat} {news : List (Addr × Obj)}
theorem len_mem {Q : Value → Shared → Prop} (N : News h₀ L s.heap news) (hm : (l, listOf vs.toArray n) ∈ news) (hl : vs.length < 1000) (h : Q (.int (vs.length : Int) (s.toks + 1)) { s with toks := s.toks + 1 + 1 }) :
    wpAny (model prog w) A (call (.builtin "len") [.ref l]) Q E s := by
  have hL := PySem.IsL.isList (N _ hm).1
  exact len_list hL (by simp; omega) (by simpa using h)
theorem truthy_mem {Q : Bool → Shared → Prop} (N : News h₀ L s.heap news) (hm : (l, listOf vs.toArray n) ∈ news) (hl : vs.length < 1000) (h : Q (!vs.isEmpty) { s with toks := s.toks + 1 + 1 }) :
    wpAny (model prog w) A (truthy (.ref l)) Q E s := by
  have hL := PySem.IsL.isList (N _ hm).1
  exact wpAny_truthy_list hL (by simp; omega) (by simpa using h)
theorem sub_memI {value slice : PySem.Expr} {kI : Int} {k : Nat} {u : Tok} {v : Value} {Q : Value → Shared → Prop} (N : News h₀ L s.heap news) (hm : (l, listOf vs.toArray n) ∈ news) (hkI : kI = (k : Int)) (hk : vs[k]? = some v) (hl : vs.length < 1000) (h : Q v s)
    (hs : subscripted slice false (.ref l) (.int kI u) = operate [.ref l, .int kI u] (getItem (.ref l) (.int kI u)) := by with_unfolding_all rfl) :
    wpAny (model prog w) A (subscriptTail value slice (.ref l) (.int kI u)) Q E s := by
  subst hkI
  have hL := PySem.IsL.isList (N _ hm).1
  have hlt : k < vs.length := (List.getElem?_eq_some_iff.mp hk).1
  exact tail_any hL.typeIs slot_list_getitem.lookup (wpAny_getItem_list hL (by omega) (by omega) (by simpa using hk) h) hs
theorem sub_mem {value slice : PySem.Expr} {k : Nat} {u : Tok} {v : Value} {Q : Value → Shared → Prop} (N : News h₀ L s.heap news) (hm : (l, listOf vs.toArray n) ∈ news) (hk : vs[k]? = some v) (hl : vs.length < 1000) (h : Q v s)
    (hs : subscripted slice false (.ref l) (.int (k : Int) u) = operate [.ref l, .int (k : Int) u] (getItem (.ref l) (.int (k : Int) u)) := by with_unfolding_all rfl) :
    wpAny (model prog w) A (subscriptTail value slice (.ref l) (.int (k : Int) u)) Q E s := by
  have hL := PySem.IsL.isList (N _ hm).1
  have hlt : k < vs.length := (List.getElem?_eq_some_iff.mp hk).1
  exact tail_any hL.typeIs slot_list_getitem.lookup (wpAny_getItem_list hL (by omega) (by omega) (by simpa using hk) h) hs
end

section
variable {w : World} {p : Program} {loose : List Str} {mean : ExcName → Option Value} {mg mb : Str → Option Value}
  {dp un : Nat} {gd : Option (List Code)} {cn : Str} {cs : Scope} {a : Addr} {ccd : Value} {cl : List (Str × Addr)} {outer : List Env} {A₀ : Around} {base h₀ : Heap} {L : Addr} {m : Str → Option Value} {s : Shared} {Q E : Value → Shared → Prop}

inductive SuPost (g' : Heap) (L' : Addr) (gs : Array GenState) (dr : Drawn) (os : OsState) (hp : Addr) (n : Nat) (rest own : List (Addr × Obj)) (v : Value) (ps : Nat) (t20 : Tok) (len : Nat) (fin : Nat × List (Int × Str)) (f : Flow) (s2 : Shared) : Prop where
  | mk : f = .next → ∀ (h2 : Heap) (tk2 : Tok) (m2 : Str → Option Value) (vs2 : List Value) (xs2 : List (Int × Str)) (ps2 : Nat) (t2 : Tok), s2 = ⟨h2, gs, dr, tk2, os⟩ → Fr g' L' h2 m2 → News g' L' h2 ((hp, listOf vs2.toArray n) :: rest) →
      Has m2 [(Str.ofString "heap", .ref hp), (Str.ofString "pos", .int ((ps2 : Nat) : Int) t2), (Str.ofString "newitem", v), (Str.ofString "startpos", .int (ps : Int) t20)] → All2 (ItemAt own) vs2 xs2 → ps2 < xs2.length → xs2.length = len → (ps2, xs2) = fin → SuPost g' L' gs dr os hp n rest own v ps t20 len fin f s2
inductive SuInv (hp : Addr) (n : Nat) (rest own : List (Addr × Obj)) (v : Value) (ps : Nat) (t20 : Tok) (len : Nat) (fin : Nat × List (Int × Str)) (nn : Nat) (m1 : Str → Option Value) (news1 : List (Addr × Obj)) : Prop where
  | mk (vs1 : List Value) (xs1 : List (Int × Str)) (qI : Int) (tp tc te : Tok) : 0 ≤ qI → nn = len - qI.toNat → news1 = (hp, listOf vs1.toArray n) :: rest →
      Has m1 [(Str.ofString "heap", .ref hp), (Str.ofString "pos", .int qI tp), (Str.ofString "newitem", v), (Str.ofString "startpos", .int (ps : Int) t20), (Str.ofString "childpos", .int (2 * qI + 1) tc), (Str.ofString "endpos", .int (len : Int) te)] →
      All2 (ItemAt own) vs1 xs1 → qI.toNat < xs1.length → xs1.length = len → supL qI.toNat xs1 = fin → SuInv hp n rest own v ps t20 len fin nn m1 news1

theorem siftup_walk {hp : Addr} {vs : List Value} {n : Nat} {rest own : List (Addr × Obj)} {xs : List (Int × Str)} {ps : Nat} {t20 : Tok}
    (B : Below A₀ base outer h₀) (F : Fr h₀ L s.heap m) (X : (hd.heap_39 w.params).In h₀) (N : News h₀ L s.heap ((hp, listOf vs.toArray n) :: rest)) (T : Top p loose mean mg mb h₀) (hk : cs.kind = .function)
    (hr : dp + 20 < recursionLimit) (hu : un + 160 < cLine) (hne : ∀ q ∈ rest, q.1 ≠ hp) (hown : ∀ q ∈ own, q ∈ rest) (hall : All2 (ItemAt own) vs xs) (hps : ps < xs.length) (hlen : xs.length < 1000)
    (ret : ∀ vs' h' tk', Fr h₀ L h' m → News h₀ L h' ((hp, listOf vs'.toArray n) :: rest) → All2 (ItemAt own) vs' (sup (xs.getD ps D0) ps xs) → Q .none { s with heap := h', toks := tk' }) :
    wpAny (model Challenge.rw_pd0167_01.row.prog w) (ktrTop dp un gd cn cs L a ccd cl outer) (call (.ref 81) [.ref hp, .int ps t20]) Q E s := by
  revert X; k_fill; intro X
  obtain ⟨v, hv, hI⟩ := hall.get ps D0 hps
  have hlen2 := hall.length
  refine wpAny_call ?_
  k_dflt cell_enter
  k_steps
  rename_i g' L' h' FG' F' N' B' X' T' _ _
  refine len_mem N' (.head _) (by omega) ?_
  k_steps
  rename_i h1 F1 N1
  refine sub_head N1 hv (by omega) ?_
  k_steps
  rename_i h1 F1 N1
  refine wpAny_mono (Q := fun f s2 => Hold (SuPost g' L' s.gens s.drawn s.os hp n rest own v ps t20 xs.length (supL ps xs) f s2)) ?loop ?after (fun _ _ h => h)
  case after =>
    rintro f s2 ⟨rfl, h2, tk2, m2, vs2, xs2, ps2, t2, rfl, F2, N2, hm2, hall2, hps2, hlen3, hfin⟩
    have F2' := Fr.know F2 hm2
    clear F2 F1 N1
    k_steps
    refine set_head F2' N2 hne (by have := hall2.length; omega) (by have := hall2.length; omega) ?_
    intro h3 F3 N3
    clear F2' N2
    k_steps
    have hall3 := hall2.set ps2 _ _ hI
    have hge : ps ≤ ps2 := by have := supL_ge xs ps; rw [← hfin] at this; exact this
    k_dflt (refine siftdown_walk (by assumption) F3 (by assumption) N3 (by assumption) rfl (by ktr_room) (by ktr_units) hne hown hall3 hge (by simp; omega) (by simp; omega) ?_)
    intro vs' h4 tk4 F4 N4 hall4
    clear F3 N3
    k_steps
    refine ret _ _ _ (by assumption) (by assumption) ?_
    have e : (xs2.set ps2 (xs.getD ps D0)).getD ps2 (0, Str.empty) = xs.getD ps D0 := by
      simp [List.getD_eq_getElem?_getD, List.getElem?_set, hps2]
    rw [e] at hall4
    unfold sup
    rw [← hfin]
    exact hall4
  case loop =>
  refine While_inv3 (SuInv hp n rest own v ps t20 xs.length (supL ps xs)) F1 N1 ⟨vs, xs, ps, t20, _, _, by omega, rfl, rfl, ⟨rfl, rfl, rfl, rfl, rfl, by rw [← hlen2]; rfl, trivial⟩, hall, hps, rfl, rfl⟩ ?_
  rintro nn m1 news1 h2 tk2 F2 N2 ⟨vs1, xs1, qI, tp, tc, te, hq0, rfl, rfl, hm1, hall1, hps1, hlen3, hfin⟩
  obtain ⟨q, rfl⟩ := Int.eq_ofNat_of_zero_le hq0
  simp only [Int.toNat_natCast] at hps1 hfin
  have F2' := Fr.know F2 hm1
  have hlen4 := hall1.length
  clear F2 F1 N1
  k_steps
  · rename_i hlt1 h3 F3 N3 hlt2
    obtain ⟨v1, hv1, hI1⟩ := hall1.get (2 * q + 1) D0 (by omega)
    obtain ⟨v2, hv2, hI2⟩ := hall1.get (2 * q + 2) D0 (by omega)
    refine sub_memI (k := 2 * q + 1) N3 (.head _) (by omega) hv1 (by omega) ?_
    k_steps
    refine sub_memI (k := 2 * q + 2) N3 (.head _) (by omega) hv2 (by omega) ?_
    k_steps
    refine lt_items hown N3 hI1 hI2 (by show un + 3 < cLine; omega) ?_
    k_steps
    · rename_i hc
      have hkid : kid (2 * q + 1) xs1 = 2 * q + 1 := by unfold kid; rw [if_neg (by rw [hc]; simp)]
      refine sub_memI (k := 2 * q + 1) N3 (.head _) (by omega) hv1 (by omega) ?_
      k_steps
      refine set_head F3 N3 hne (by omega) (by omega) ?_
      intro h5 F5 N5
      clear F3 N3
      k_steps
      rename_i h6 F6 N6
      dsimp only [WEnd]
      refine ⟨h6, _, _, _, xs.length - (2 * q + 1), rfl, F6, N6, by omega, _, _, 2 * q + 1, _, _, _, by omega, by congr 1, rfl, ⟨rfl, rfl, rfl, rfl, rfl, rfl, trivial⟩, hall1.set q _ _ hI1, by simp; omega, by simpa using hlen3, ?_⟩
      rw [← hfin]
      conv => rhs; rw [supL, if_pos (by omega), hkid]
      congr 1
    · rename_i hc _ _ h4 F4 N4
      have hkid : kid (2 * q + 1) xs1 = 2 * q + 2 := by unfold kid; rw [if_pos ⟨by omega, hc⟩]
      refine sub_memI (k := 2 * q + 2) N4 (.head _) (by omega) hv2 (by omega) ?_
      k_steps
      refine set_head F4 N4 hne (by omega) (by omega) ?_
      intro h5 F5 N5
      clear F4 N4
      k_steps
      rename_i h6 F6 N6
      dsimp only [WEnd]
      refine ⟨h6, _, _, _, xs.length - (2 * q + 2), rfl, F6, N6, by omega, _, _, 2 * q + 1 + 1, _, _, _, by omega, by congr 1, rfl, ⟨rfl, rfl, rfl, rfl, rfl, rfl, trivial⟩, hall1.set q _ _ hI2, by simp; omega, by simpa using hlen3, ?_⟩
      rw [← hfin]
      conv => rhs; rw [supL, if_pos (by omega), hkid]
      congr 1
  · rename_i hlt1 h3 F3 N3 hlt2 _ _
    have hkid : kid (2 * q + 1) xs1 = 2 * q + 1 := by unfold kid; rw [if_neg (by omega)]
    obtain ⟨v1, hv1, hI1⟩ := hall1.get (2 * q + 1) D0 (by omega)
    refine sub_memI (k := 2 * q + 1) N3 (.head _) (by omega) hv1 (by omega) ?_
    k_steps
    refine set_head F3 N3 hne (by omega) (by omega) ?_
    intro h5 F5 N5
    clear F3 N3
    k_steps
    rename_i h6 F6 N6
    dsimp only [WEnd]
    refine ⟨h6, _, _, _, xs.length - (2 * q + 1), rfl, F6, N6, by omega, _, _, 2 * q + 1, _, _, _, by omega, by congr 1, rfl, ⟨rfl, rfl, rfl, rfl, rfl, rfl, trivial⟩, hall1.set q _ _ hI1, by simp; omega, by simpa using hlen3, ?_⟩
    rw [← hfin]
    conv => rhs; rw [supL, if_pos (by omega), hkid]
    congr 1
  · refine Hold.mk ⟨rfl, h2, tk2, _, vs1, xs1, q, tp, rfl, F2', N2, ⟨rfl, rfl, rfl, rfl, trivial⟩, hall1, hps1, hlen3, ?_⟩
    rw [← hfin, supL, if_neg (by omega)]
end
end Mine
end

section
open PySem PySem.W PyProof.Rows PySem.Calls PySem.Spec
set_option Elab.async false
set_option maxRecDepth 100000
set_option maxHeartbeats 8000000
set_option pp.deepTerms false
set_option pp.deepTerms.threshold 4
set_option pp.maxSteps 20000
namespace Mine
theorem walk_start_B3 : True := by w_top off; trivial
local macro_rules | `(tactic| k_steps) => `(tactic| repeat' (
  (fail_if_success (with_reducible show wpAny _ _ (PySem.exec (Stmt.While _ _ _ _) _) _ _ _));
  (fail_if_success (with_reducible show wpAny _ _ (PySem.exec (Stmt.For _ _ _ _ _) _) _ _ _));
  (fail_if_success (with_reducible show wpAny _ _ (PySem.call (Value.ref _) _ _) _ _ _));
  (fail_if_success (with_reducible show wpAny _ _ (PySem.call (Value.builtin "list.append") _ _) _ _ _));
  (fail_if_success (with_reducible show wpAny _ _ (PySem.call (Value.builtin "list.pop") _ _) _ _ _));
  (fail_if_success (with_reducible show wpAny _ _ (PySem.call (Value.builtin "len") [Value.ref _] _) _ _ _));
  (fail_if_success (with_reducible show wpAny _ _ (truthy (Value.ref _)) _ _ _));
  (fail_if_success (with_reducible show wpAny _ _ (subscriptTail _ _ (Value.ref _) (Value.int _ _)) _ _ _));
  (fail_if_success (with_reducible show wpAny _ _ (setItem (Value.ref _) (Value.int _ _) _) _ _ _));
  (fail_if_success (with_reducible show Hold _));
  (first | ((with_reducible show wpAny _ _ (PySem.exec _ _) _ _ _); k_fold) | (k_unfold; (try dsimp only)) | (k_end; kc_close) | walk1 | (dsimp only; walk1) | (leave1; walk_say "STEP leave1"; (try dsimp only)) | fail "no step")))

theorem All2.snoc {α β : Type} {R : α → β → Prop} {l : List α} {r : List β} (h : All2 R l r) {a : α} {b : β} (hab : R a b) : All2 R (l ++ [a]) (r ++ [b]) := by
  induction h with
  | nil => exact .cons hab .nil
  | cons h1 _ ih => exact .cons h1 ih
theorem All2.unsnoc {α β : Type} {R : α → β → Prop} {l : List α} {r : List β} (h : All2 R l r) : l ≠ [] → ∃ l' a r' b, l = l' ++ [a] ∧ r = r' ++ [b] ∧ All2 R l' r' ∧ R a b := by
  induction h with
  | nil => intro h; exact absurd rfl h
  | @cons a b l r h1 hr ih =>
    intro _
    cases hr with
    | nil => exact ⟨[], a, [], b, rfl, rfl, .nil, h1⟩
    | @cons a' b' l' r' h2 hr' =>
      obtain ⟨l1, x, r1, y, e1, e2, h3, h4⟩ := ih (by simp)
      exact ⟨a :: l1, x, b :: r1, y, by rw [e1]; rfl, by rw [e2]; rfl, .cons h1 h3, h4⟩

def push (xs : List (Int × Str)) (x : Int × Str) : List (Int × Str) := sdown x 0 xs.length (xs ++ [x])
/-- what heappop takes, and what it leaves -/
def popV (xs : List (Int × Str)) : Int × Str := if xs.dropLast = [] then xs.getLastD D0 else xs.dropLast.getD 0 D0
def popR (xs : List (Int × Str)) : List (Int × Str) := if xs.dropLast = [] then [] else sup (xs.getLastD D0) 0 (xs.dropLast.set 0 (xs.getLastD D0))

section
variable {prog : Program} {w : World} {A : Around} {E : Value → Shared → Prop} {s : Shared} {h₀ : Heap} {L : Addr} {m : Str → Option Value} {l : Addr} {vs : List Value} {n : Nat} {rest : List (Addr × Obj)}
theorem append_head {x : Value} {Q : Value → Shared → Prop} (F : Fr h₀ L s.heap m) (N : News h₀ L s.heap ((l, listOf vs.toArray n) :: rest)) (hne : ∀ q ∈ rest, q.1 ≠ l) (hl : vs.length < 1000)
    (h : ∀ h', Fr h₀ L h' m → News h₀ L h' ((l, listOf (vs ++ [x]).toArray (n + 1)) :: rest) → Q .none { s with heap := h' }) : wpAny (model prog w) A (call (.builtin "list.append") [.ref l, x]) Q E s := by
  have z := N _ (List.Mem.head _)
  refine append_at z.1 (fun h' hs ho => h h' (F.change hs z.2.1 z.2.2) (news_set (pre := []) N (fun _ h => nomatch h) hne hs ?_)) (by rw [sizeLine_eq]; simp; omega)
  rw [ho]
  simp
theorem pop_head {y : Value} {Q : Value → Shared → Prop} (F : Fr h₀ L s.heap m) (N : News h₀ L s.heap ((l, listOf (vs ++ [y]).toArray n) :: rest)) (hne : ∀ q ∈ rest, q.1 ≠ l) (hl : vs.length < 1000)
    (h : ∀ h', Fr h₀ L h' m → News h₀ L h' ((l, listOf vs.toArray (n + 1)) :: rest) → Q y { s with heap := h' }) : wpAny (model prog w) A (call (.builtin "list.pop") [.ref l]) Q E s := by
  refine kl_pop (p := vs) (y := y) F N ?_ (.head hne) (by rw [sizeLine_eq]; simp; omega) h
  simpa using kpa_last y vs
end

section
variable {w : World} {p : Program} {loose : List Str} {mean : ExcName → Option Value} {mg mb : Str → Option Value}
  {dp un : Nat} {gd : Option (List Code)} {cn : Str} {cs : Scope} {a : Addr} {ccd : Value} {cl : List (Str × Addr)} {outer : List Env} {A₀ : Around} {base h₀ : Heap} {L : Addr} {m : Str → Option Value} {s : Shared} {Q E : Value → Shared → Prop}

theorem push_walk {hp : Addr} {vs : List Value} {n : Nat} {rest own : List (Addr × Obj)} {xs : List (Int × Str)} {v : Value} {x : Int × Str}
    (B : Below A₀ base outer h₀) (F : Fr h₀ L s.heap m) (X : (hd.heap_39 w.params).In h₀) (N : News h₀ L s.heap ((hp, listOf vs.toArray n) :: rest)) (T : Top p loose mean mg mb h₀) (hk : cs.kind = .function)
    (hr : dp + 30 < recursionLimit) (hu : un + 240 < cLine) (hne : ∀ q ∈ rest, q.1 ≠ hp) (hown : ∀ q ∈ own, q ∈ rest) (hall : All2 (ItemAt own) vs xs) (hI : ItemAt own v x) (hlen : xs.length < 900)
    (ret : ∀ vs' n' h' tk', Fr h₀ L h' m → News h₀ L h' ((hp, listOf vs'.toArray n') :: rest) → All2 (ItemAt own) vs' (push xs x) → Q .none { s with heap := h', toks := tk' }) :
    wpAny (model Challenge.rw_pd0167_01.row.prog w) (ktrTop dp un gd cn cs L a ccd cl outer) (call (.ref 60) [.ref hp, v]) Q E s := by
  revert X; k_fill; intro X
  have hlen2 := hall.length
  refine wpAny_call ?_
  k_dflt cell_enter
  k_steps
  rename_i g' L' h' FG' F' N' B' X' T' _ _
  refine append_head F' N' hne (by omega) ?_
  intro h1 F1 N1
  clear F' N'
  k_steps
  refine len_mem N1 (.head _) (by simp; omega) ?_
  k_steps
  have e : (((vs ++ [v]).length : Nat) : Int) - 1 = ((xs.length : Nat) : Int) := by simp; omega
  rw [e]
  k_dflt (refine siftdown_walk (st := 0) (ps := xs.length) (by assumption) F1 (by assumption) N1 (by assumption) rfl (by ktr_room) (by ktr_units) hne hown (hall.snoc hI) (Nat.zero_le _) (by simp) (by simp; omega) ?_)
  intro vs' h2 tk2 F2 N2 hall2
  clear F1 N1
  k_steps
  refine ret _ _ _ _ (by assumption) (by assumption) ?_
  have e2 : (xs ++ [x]).getD xs.length (0, Str.empty) = x := by simp [List.getD_eq_getElem?_getD]
  rw [e2] at hall2
  exact hall2

theorem pop_walk {hp : Addr} {vs : List Value} {n : Nat} {rest own : List (Addr × Obj)} {xs : List (Int × Str)}
    (B : Below A₀ base outer h₀) (F : Fr h₀ L s.heap m) (X : (hd.heap_39 w.params).In h₀) (N : News h₀ L s.heap ((hp, listOf vs.toArray n) :: rest)) (T : Top p loose mean mg mb h₀) (hk : cs.kind = .function)
    (hr : dp + 30 < recursionLimit) (hu : un + 240 < cLine) (hne : ∀ q ∈ rest, q.1 ≠ hp) (hown : ∀ q ∈ own, q ∈ rest) (hall : All2 (ItemAt own) vs xs) (hxs : xs ≠ []) (hlen : xs.length < 900)
    (ret : ∀ v vs' n' h' tk', Fr h₀ L h' m → News h₀ L h' ((hp, listOf vs'.toArray n') :: rest) → All2 (ItemAt own) vs' (popR xs) → ItemAt own v (popV xs) → Q v { s with heap := h', toks := tk' }) :
    wpAny (model Challenge.rw_pd0167_01.row.prog w) (ktrTop dp un gd cn cs L a ccd cl outer) (call (.ref 67) [.ref hp]) Q E s := by
  revert X; k_fill; intro X
  have hlen2 := hall.length
  obtain ⟨vs1, y, xs1, x, rfl, rfl, hall1, hIy⟩ := hall.unsnoc (by intro e; subst e; cases hall; exact hxs rfl)
  have hlen3 := hall1.length
  simp only [List.length_append, List.length_singleton] at hlen hlen2
  refine wpAny_call ?_
  k_dflt cell_enter
  k_steps
  rename_i g' L' h' FG' F' N' B' X' T' _ _
  refine pop_head F' N' hne (by omega) ?_
  intro h1 F1 N1
  clear F' N'
  k_steps
  rename_i h2 F2 N2
  refine truthy_mem N2 (.head _) (by omega) ?_
  k_steps
  · rename_i hem _ _ _ _
    have hnil : xs1 = [] := by
      cases vs1 with
      | nil => cases hall1; rfl
      | cons _ _ => simp at hem
    subst hnil
    refine ret _ _ _ _ _ (by assumption) (by assumption) ?_ ?_
    · unfold popR
      simpa using hall1
    · unfold popV
      simpa using hIy
  · rename_i hem
    have hpos : 0 < xs1.length := by
      cases vs1 with
      | nil => simp at hem
      | cons _ _ => simp at hlen3; omega
    have hne1 : xs1 ≠ [] := by intro e; subst e; simp at hpos
    obtain ⟨v0, hv0, hI0⟩ := hall1.get 0 D0 hpos
    refine sub_memI (k := 0) N2 (.head _) rfl hv0 (by omega) ?_
    k_steps
    rename_i h3 F3 N3
    k_dflt (refine set_head (k := 0) F3 N3 hne (by omega) (by omega) ?_)
    intro h4 F4 N4
    clear F3 N3
    k_steps
    k_dflt (refine siftup_walk (ps := 0) (by assumption) F4 (by assumption) N4 (by assumption) rfl (by ktr_room) (by ktr_units) hne hown (hall1.set 0 _ _ hIy) (by simpa using hpos) (by simp; omega) ?_)
    intro vs' h5 tk5 F5 N5 hall5
    clear F4 N4
    k_steps
    refine ret _ _ _ _ _ (by assumption) (by assumption) ?_ ?_
    · unfold popR
      have e2 : (xs1.set 0 x).getD 0 D0 = x := by simp [List.getD_eq_getElem?_getD, hpos]
      rw [e2] at hall5
      simpa [hne1] using hall5
    · unfold popV
      simpa [hne1] using hI0
end
end Mine
end

section
open PySem PySem.W PyProof.Rows PySem.Calls PySem.Spec
set_option Elab.async false
set_option maxRecDepth 100000
set_option maxHeartbeats 8000000
namespace Mine
theorem walk_start_BL : True := by w_top off; trivial

abbrev owners : List String := ["enumerate", "zip", "dict_itemiterator", "dict_reverseitemiterator", "odict_iterator", "itertools.zip_longest", "itertools.pairwise"]
theorem go_pass {prog : Program} {w : World} {A : Around} {E : Value → Shared → Prop} {s : Shared} {target : PySem.Expr} {I : Addr} {v : Value} {o : Obj} {nm : String} {Q : Unit → Shared → Prop}
    (ho : s.heap.get? I = some o) (hc : o.cls = .type nm) (hn : owners.contains nm = false) (hQ : Q () s) : wpAny (model prog w) A (letOwnedTupleGo target (.ref I) v) Q E s := by
  have key : ∀ T, wpAny (model prog w) A (do
      let o ← load I
      match o.cls, o.data with
      | .type n, .fields vs =>
        if owners.contains n && vs[0]? == some (rawInt T) then
          rule "for.unpacks-the-owned-tuple"
          updateField I 0 .none
      | _, _ => pure ()) Q E s := by
    intro T
    refine wpAny_bind (wpAny_load ho ?_)
    rw [hc]
    cases o.data with
    | fields vs =>
      dsimp only
      rw [if_neg (by rw [hn, Bool.false_and]; exact Bool.false_ne_true)]
      exact wpAny_pure hQ
    | _ => exact wpAny_pure hQ
  cases target with
  | Tuple elts x1 pos =>
    cases v with
    | ref T => exact key T
    | _ => exact wpAny_pure hQ
  | List elts pos =>
    cases v with
    | ref T => exact key T
    | _ => exact wpAny_pure hQ
  | _ => exact wpAny_pure hQ

inductive ForNext (h₀ : Heap) (L : Addr) (gs : Array GenState) (dr : Drawn) (os : OsState) (q : Addr × Obj) (J : (Str → Option Value) → List (Addr × Obj) → Prop) (s₃ : Shared) : Prop where
  | mk (h' : Heap) (tk : Tok) (m₂ : Str → Option Value) (news₂ : List (Addr × Obj)) : s₃ = ⟨h', gs, dr, tk, os⟩ → Fr h₀ L h' m₂ → News h₀ L h' (q :: news₂) → (∀ p ∈ news₂, p.1 ≠ q.1) → J m₂ news₂ → ForNext h₀ L gs dr os q J s₃
/-- the end of a turn of a for: q is the loop's own iterator -/
def ForEnd (h₀ : Heap) (L : Addr) (s : Shared) (q : Addr × Obj) (J : (Str → Option Value) → List (Addr × Obj) → Prop) (Q : Flow → Shared → Prop) (f : Flow) (s₃ : Shared) : Prop :=
  match f with
  | .ret v => Q (.ret v) s₃
  | .brk => Q .next s₃
  | _ => ForNext h₀ L s.gens s.drawn s.os q J s₃

structure LoopAt (prog : Program) (w : World) (A : Around) (h₀ : Heap) (env : Env) (target : PySem.Expr) (body : List Stmt) (Q : Flow → Shared → Prop) (I : Addr) (s : Shared)
    (fix : List (Addr × Obj)) (n : Nat) (P : Nat → Value → Prop) (St : Nat → Heap → Prop) (m : Str → Option Value) (news : List (Addr × Obj)) (J : Nat → (Str → Option Value) → List (Addr × Obj) → Prop) : Prop where
  W : Walks prog w A I (I :: fix.map (·.1)) [I] n P St
  st0 : St 0 s.heap
  at' : ∀ i h, St i h → ∃ o nm, h.get? I = some o ∧ o.cls = .type nm ∧ owners.contains nm = false
  IL : I ≠ env.locals
  new : h₀.get? I = none
  off : ∀ p ∈ news, p.1 ≠ I
  F : Fr h₀ env.locals s.heap m
  N : News h₀ env.locals s.heap news
  j0 : J 0 m news
  fixed : ∀ i m news, J i m news → ∀ q ∈ fix, q ∈ news
  turn : ∀ i v m₁ news₁ h tk o, i < n → P i v → J i m₁ news₁ → (∀ p ∈ news₁, p.1 ≠ I) → Fr h₀ env.locals h m₁ → News h₀ env.locals h ((I, o) :: news₁) →
    wpAny (model prog w) A (assign target env v) (fun _ s₂ => wpAny (model prog w) A (execs body env) (ForEnd h₀ env.locals s (I, o) (J (i + 1)) Q) (fun _ _ => False) s₂) (fun _ _ => False) { s with heap := h, toks := tk }
  done : ∀ m₁ news₁ h tk, J n m₁ news₁ → Fr h₀ env.locals h m₁ → News h₀ env.locals h news₁ → Q .next { s with heap := h, toks := tk }

theorem for_loop {prog : Program} {w : World} {A : Around} {h₀ : Heap} {env : Env} {target iter : PySem.Expr} {body : List Stmt} {pos : Pos} {Q : Flow → Shared → Prop} {s : Shared}
    (h : wpAny (model prog w) A (eval iter env) (fun xv s₁ => wpAny (model prog w) A (pyIter xv) (fun it s₂ => ∃ I fix n P St m news J, it = .ref I ∧ LoopAt prog w A h₀ env target body Q I s₂ fix n P St m news J) (fun _ _ => False) s₁) (fun _ _ => False) s)
    (hs : ∀ x, foldedSetIterable iter env x = pure x := by intro _; rfl) :
    wpAny (model prog w) A (exec (.For target iter body [] pos) env) Q (fun _ _ => False) s := by
  refine wpAny_For (wpAny_mono h (fun xv s₁ h₁ => wpAny_mono h₁ (fun it s₂ h₂ => ?_) fun _ _ e => e) fun _ _ e => e) hs
  obtain ⟨I, fix, n, P, St, m, news, J, rfl, Z⟩ := h₂
  refine codeAny_forLoop_any (fun k s' => ∃ h' tk m' news' i, s' = { s₂ with heap := h', toks := tk } ∧ St i h' ∧ Fr h₀ env.locals h' m' ∧ News h₀ env.locals h' news' ∧ (∀ p ∈ news', p.1 ≠ I) ∧ J i m' news' ∧ i ≤ n ∧ k = n + 1 - i) ?_ (n + 1)
    ⟨s₂.heap, s₂.toks, m, news, 0, rfl, Z.st0, Z.F, Z.N, Z.off, Z.j0, Nat.zero_le _, rfl⟩
  rintro k s' ⟨h', tk, m', news', i, rfl, hst', F', N', hoff', hJ, hi, rfl⟩
  have next : ∀ h₁ : Heap, (∀ b o, b ∉ [I] → h'.get? b = some o → h₁.get? b = some o) → Fr h₀ env.locals h₁ m' ∧ News h₀ env.locals h₁ news' := fun h₁ hk₁ =>
    ⟨⟨F'.ns.at' fun o e => hk₁ _ o (fun hm => Z.IL (List.mem_singleton.mp hm).symm) e, fun b o e => hk₁ b o (fun hm => by have := Z.new; rw [← List.mem_singleton.mp hm, e] at this; cases this) (F'.keep b o e), F'.above⟩,
      fun p hp => ⟨hk₁ _ _ (fun hm => hoff' p hp (List.mem_singleton.mp hm)) (N' p hp).1, (N' p hp).2⟩⟩
  by_cases hlt : i < n
  · refine Z.W.item i _ _ _ hlt hst' fun v h₁ tk₁ hP hst₁ hk₁ => ?_
    obtain ⟨F₁, N₁⟩ := next h₁ hk₁
    obtain ⟨o, nm, ho, hoc, hon⟩ := Z.at' _ _ hst₁
    have N₂ : News h₀ env.locals h₁ ((I, o) :: news') := by
      intro p hp
      rcases List.mem_cons.mp hp with rfl | hp
      · exact ⟨ho, Z.IL, Z.new⟩
      · exact N₁ p hp
    refine go_pass ho hoc hon ?_
    refine wpAny_mono (Z.turn i v m' news' h₁ tk₁ o hlt hP hJ hoff' F₁ N₂) (fun _ s₃ h₃ => wpAny_mono h₃ (fun f s₄ h₄ => ?_) fun _ _ e => e.elim) fun _ _ e => e.elim
    have fin : ForNext h₀ env.locals s₂.gens s₂.drawn s₂.os (I, o) (J (i + 1)) s₄ →
        ∃ m, m < n + 1 - i ∧ ∃ h' tk m' news' i, s₄ = { s₂ with heap := h', toks := tk } ∧ St i h' ∧ Fr h₀ env.locals h' m' ∧ News h₀ env.locals h' news' ∧ (∀ p ∈ news', p.1 ≠ I) ∧ J i m' news' ∧ i ≤ n ∧ m = n + 1 - i := by
      rintro ⟨h₃', tk₃, m₂, news₂, rfl, F₃, N₃, ho₃, hJ₃⟩
      refine ⟨n + 1 - (i + 1), by omega, h₃', tk₃, m₂, news₂, i + 1, rfl, ?_, F₃, fun p hp => N₃ p (.tail _ hp), ho₃, hJ₃, hlt, rfl⟩
      refine Z.W.frame _ _ _ hst₁ fun b hb o' e => ?_
      rcases List.mem_cons.mp hb with rfl | hb
      · rw [ho] at e; cases e; exact (N₃ _ (.head _)).1
      · obtain ⟨q, hq, rfl⟩ := List.mem_map.mp hb
        have h1 := (N₁ q (Z.fixed _ _ _ hJ q hq)).1
        rw [h1] at e; cases e
        exact (N₃ q (.tail _ (Z.fixed _ _ _ hJ₃ q hq))).1
    cases f with
    | ret v => exact h₄
    | brk => exact h₄
    | next => exact fin h₄
    | cont => exact fin h₄
  · have hin : i = n := by omega
    subst hin
    refine Z.W.done _ _ _ hst' fun h₁ tk₁ hk₁ => wpAny_execs_nil ?_
    obtain ⟨F₁, N₁⟩ := next h₁ hk₁
    exact Z.done m' news' h₁ tk₁ hJ F₁ N₁

section
variable {prog : Program} {w : World} {A : Around} {h₀ : Heap} {env : Env} {target : PySem.Expr} {body : List Stmt} {Q : Flow → Shared → Prop} {s : Shared} {m : Str → Option Value} {news : List (Addr × Obj)} {vs : List Value} {l : Addr} {k : Nat}

theorem fr_lt {h₀ h : Heap} {L : Addr} {m : Str → Option Value} (F : Fr h₀ L h m) : L < h.objs.size := F.ns.lt

/-- the loop over a list of the ledger -/
theorem iter_list (J : Nat → (Str → Option Value) → List (Addr × Obj) → Prop) (hh : A.handled = none) (F : Fr h₀ env.locals s.heap m) (N : News h₀ env.locals s.heap news) (hl : (l, listOf vs.toArray k) ∈ news) (hj : J 0 m news)
    (fixed : ∀ i m news, J i m news → (l, listOf vs.toArray k) ∈ news)
    (turn : ∀ i v m₁ news₁ h tk I o, vs[i]? = some v → J i m₁ news₁ → (∀ p ∈ news₁, p.1 ≠ I) → Fr h₀ env.locals h m₁ → News h₀ env.locals h ((I, o) :: news₁) →
      wpAny (model prog w) A (assign target env v) (fun _ s₂ => wpAny (model prog w) A (execs body env) (ForEnd h₀ env.locals s (I, o) (J (i + 1)) Q) (fun _ _ => False) s₂) (fun _ _ => False) { s with heap := h, toks := tk })
    (done : ∀ m₁ news₁ h tk, J vs.length m₁ news₁ → Fr h₀ env.locals h m₁ → News h₀ env.locals h news₁ → Q .next { s with heap := h, toks := tk }) :
    wpAny (model prog w) A (pyIter (.ref l)) (fun it s₂ => ∃ I fix n P St m news J, it = .ref I ∧ LoopAt prog w A h₀ env target body Q I s₂ fix n P St m news J) (fun _ _ => False) s := by
  have hL : s.heap.IsList l vs.toArray := PySem.IsL.isList (N _ hl).1
  have hne : l ≠ s.heap.objs.size := Nat.ne_of_lt (Heap.lt_size (N _ hl).1)
  refine wpAny_pyIter_list hL ?_
  refine ⟨s.heap.objs.size, [(l, listOf vs.toArray k)], vs.toArray.size, (fun i v => vs.toArray[i]? = some v), (fun i h => h.IsListIter s.heap.objs.size l i ∧ h.IsList l vs.toArray), m, news, J, rfl, ?_⟩
  have W := Walks.list (prog := prog) (w := w) hh s.heap.objs.size l hne vs.toArray
  refine { W := W, st0 := ⟨⟨_, Heap.get?_push_size _ rfl, rfl, rfl⟩, hL.at fun o e => Heap.get?_push_of_some _ e⟩, at' := ?_, IL := Nat.ne_of_gt F.ns.lt, new := next_is_new F, off := fun p hp => Nat.ne_of_lt (Heap.lt_size (N p hp).1), F := F.push _, N := fun p hp => ⟨Heap.get?_push_of_some _ (N p hp).1, (N p hp).2⟩, j0 := hj, fixed := ?_, turn := ?_, done := ?_ }
  · rintro i h ⟨⟨o, ho, hc, _⟩, _⟩; exact ⟨o, _, ho, hc, by decide⟩
  · intro i m' news' hJ q hq
    rw [List.mem_singleton.mp hq]; exact fixed i m' news' hJ
  · intro i v m₁ news₁ h tk o hi hP hJ hoff F₁ N₁
    exact turn i v m₁ news₁ h tk _ o (by simpa using hP) hJ hoff F₁ N₁
  · intro m₁ news₁ h tk hJ F₁ N₁
    exact done m₁ news₁ h tk (by simpa using hJ) F₁ N₁

/-- the loop over a tuple of the ledger -/
theorem iter_tuple (J : Nat → (Str → Option Value) → List (Addr × Obj) → Prop) (hh : A.handled = none) (F : Fr h₀ env.locals s.heap m) (N : News h₀ env.locals s.heap news) (hl : (l, ({ cls := .type "tuple", data := .seq vs.toArray k } : Obj)) ∈ news) (hj : J 0 m news)
    (fixed : ∀ i m news, J i m news → (l, ({ cls := .type "tuple", data := .seq vs.toArray k } : Obj)) ∈ news)
    (turn : ∀ i v m₁ news₁ h tk I o, vs[i]? = some v → J i m₁ news₁ → (∀ p ∈ news₁, p.1 ≠ I) → Fr h₀ env.locals h m₁ → News h₀ env.locals h ((I, o) :: news₁) →
      wpAny (model prog w) A (assign target env v) (fun _ s₂ => wpAny (model prog w) A (execs body env) (ForEnd h₀ env.locals s (I, o) (J (i + 1)) Q) (fun _ _ => False) s₂) (fun _ _ => False) { s with heap := h, toks := tk })
    (done : ∀ m₁ news₁ h tk, J vs.length m₁ news₁ → Fr h₀ env.locals h m₁ → News h₀ env.locals h news₁ → Q .next { s with heap := h, toks := tk }) :
    wpAny (model prog w) A (pyIter (.ref l)) (fun it s₂ => ∃ I fix n P St m news J, it = .ref I ∧ LoopAt prog w A h₀ env target body Q I s₂ fix n P St m news J) (fun _ _ => False) s := by
  have hL : s.heap.IsTuple l vs.toArray := ⟨_, (N _ hl).1, rfl, k, rfl⟩
  have hne : l ≠ s.heap.objs.size := Nat.ne_of_lt (Heap.lt_size (N _ hl).1)
  refine wpAny_pyIter_tuple hL ?_
  refine ⟨s.heap.objs.size, [(l, { cls := .type "tuple", data := .seq vs.toArray k })], vs.toArray.size, (fun i v => vs.toArray[i]? = some v), (fun i h => h.IsTupleIter s.heap.objs.size l i ∧ h.IsTuple l vs.toArray), m, news, J, rfl, ?_⟩
  have W := Walks.tuple (prog := prog) (w := w) hh s.heap.objs.size l hne vs.toArray
  refine { W := W, st0 := ⟨⟨_, Heap.get?_push_size _ rfl, rfl, rfl⟩, hL.at fun o e => Heap.get?_push_of_some _ e⟩, at' := ?_, IL := Nat.ne_of_gt F.ns.lt, new := next_is_new F, off := fun p hp => Nat.ne_of_lt (Heap.lt_size (N p hp).1), F := F.push _, N := fun p hp => ⟨Heap.get?_push_of_some _ (N p hp).1, (N p hp).2⟩, j0 := hj, fixed := ?_, turn := ?_, done := ?_ }
  · rintro i h ⟨⟨o, ho, hc, _⟩, _⟩; exact ⟨o, _, ho, hc, by decide⟩
  · intro i m' news' hJ q hq
    rw [List.mem_singleton.mp hq]; exact fixed i m' news' hJ
  · intro i v m₁ news₁ h tk o hi hP hJ hoff F₁ N₁
    exact turn i v m₁ news₁ h tk _ o (by simpa using hP) hJ hoff F₁ N₁
  · intro m₁ news₁ h tk hJ F₁ N₁
    exact done m₁ news₁ h tk (by simpa using hJ) F₁ N₁

/-- the loop over a range from 0 -/
theorem iter_range {r : Addr} {b₀ : Int} {t₀ u₀ v₀ : Tok} {n : Nat} (J : Nat → (Str → Option Value) → List (Addr × Obj) → Prop) (hh : A.handled = none) (F : Fr h₀ env.locals s.heap m) (N : News h₀ env.locals s.heap news)
    (hr : IsRange s.heap r 0 b₀ 1 t₀ u₀ v₀) (hsmall : Builtin.Range.small 0 b₀ 1 = true) (hn : Builtin.Range.rangeSize 0 b₀ 1 = (n : Int)) (hj : J 0 m news)
    (turn : ∀ i t m₁ news₁ h tk I o, i < n → J i m₁ news₁ → (∀ p ∈ news₁, p.1 ≠ I) → Fr h₀ env.locals h m₁ → News h₀ env.locals h ((I, o) :: news₁) →
      wpAny (model prog w) A (assign target env (.int (i : Int) t)) (fun _ s₂ => wpAny (model prog w) A (execs body env) (ForEnd h₀ env.locals s (I, o) (J (i + 1)) Q) (fun _ _ => False) s₂) (fun _ _ => False) { s with heap := h, toks := tk })
    (done : ∀ m₁ news₁ h tk, J n m₁ news₁ → Fr h₀ env.locals h m₁ → News h₀ env.locals h news₁ → Q .next { s with heap := h, toks := tk }) :
    wpAny (model prog w) A (pyIter (.ref r)) (fun it s₂ => ∃ I fix n P St m news J, it = .ref I ∧ LoopAt prog w A h₀ env target body Q I s₂ fix n P St m news J) (fun _ _ => False) s := by
  refine wpAny_pyIter_range hr hsmall ?_
  refine ⟨s.heap.objs.size, [], n, (fun i v => ∃ t, v = .int (0 + (i : Int) * 1) t), (fun i h => IsRangeIter h s.heap.objs.size (0 + (i : Nat) * 1) ((n : Int) - (i : Nat)) 1), m, news, J, rfl, ?_⟩
  have W := Walks.range (prog := prog) (w := w) hh s.heap.objs.size 0 1 n
  refine { W := W, st0 := (by show IsRangeIter _ _ _ _ _; rw [hn]; simpa using Heap.get?_push_size _ rfl), at' := ?_, IL := Nat.ne_of_gt F.ns.lt, new := next_is_new F, off := fun p hp => Nat.ne_of_lt (Heap.lt_size (N p hp).1), F := F.push _, N := fun p hp => ⟨Heap.get?_push_of_some _ (N p hp).1, (N p hp).2⟩, j0 := hj, fixed := (fun _ _ _ _ _ hq => nomatch hq), turn := ?_, done := done }
  · intro i h hst; exact ⟨_, _, hst, rfl, by decide⟩
  · rintro i v m₁ news₁ h tk o hi ⟨t, rfl⟩ hJ hoff F₁ N₁
    have e : (0 : Int) + (i : Int) * 1 = i := by omega
    rw [e]
    exact turn i t m₁ news₁ h tk _ o hi hJ hoff F₁ N₁
end
end Mine
end

section
open PySem PySem.W PyProof.Rows PySem.Calls PySem.Spec
set_option Elab.async false
set_option maxRecDepth 100000
set_option maxHeartbeats 8000000
set_option pp.deepTerms false
set_option pp.deepTerms.threshold 4
set_option pp.maxSteps 20000
namespace Mine
theorem walk_start_B4 : True := by w_top off; trivial
local macro_rules | `(tactic| k_steps) => `(tactic| repeat' (
  (fail_if_success (with_reducible show wpAny _ _ (PySem.exec (Stmt.While _ _ _ _) _) _ _ _));
  (fail_if_success (with_reducible show wpAny _ _ (PySem.exec (Stmt.For _ _ _ _ _) _) _ _ _));
  (fail_if_success (with_reducible show wpAny _ _ (PySem.call (Value.ref _) _ _) _ _ _));
  (fail_if_success (with_reducible show wpAny _ _ (PySem.call (Value.builtin "list.append") _ _) _ _ _));
  (fail_if_success (with_reducible show wpAny _ _ (PySem.call (Value.builtin "list.pop") _ _) _ _ _));
  (fail_if_success (with_reducible show wpAny _ _ (truthy (Value.ref _)) _ _ _));
  (fail_if_success (with_reducible show wpAny _ _ (subscriptTail _ _ (Value.ref _) (Value.int _ _)) _ _ _));
  (fail_if_success (with_reducible show wpAny _ _ (setItem (Value.ref _) (Value.int _ _) _) _ _ _));
  (fail_if_success (with_reducible show Hold _));
  (first | (k_unfold; (try dsimp only)) | (k_end; kc_close) | walk1 | (dsimp only; walk1) | (leave1; walk_say "STEP leave1"; (try dsimp only)) | fail "no step")))

theorem sub_str_str : isSubtype (.type "str") (.type "str") = pure true := by rw [isSubtype_type]; kernel_rfl
theorem plain_issubclass_nested : plainId "issubclass.nested" = true := by decide +kernel
theorem kind_issubclass_nested : builtinKind "issubclass.nested" = none := by decide +kernel
theorem args_issubclass_nested_3 (a b c : Value) : argsOk "issubclass.nested" ⟨[a, b, c], []⟩ := by unfold argsOk; kernel_rfl
theorem check_issubclass_nested : ∀ args, checkBuiltinCall "issubclass.nested" args = pure () := checkBuiltinCall_of_none (by kernel_rfl) (by kernel_rfl)
section
variable {prog : Program} {w : World} {A : Around} {E : Value → Shared → Prop} {s : Shared}
theorem issub_one {k : Value} {dep : Int} {tk : Tok} {Q : Fin → Shared → Prop} (hk : k = .int dep tk) (hq : Q (.done (.ret (.bool true))) s) :
    wpAny (model prog w) A (Builtin.«issubclass.nested» ⟨[.type "str", .type "str", k], []⟩) Q E s := by
  subst hk
  have hself := sub_str_str
  have hm : (Value.type "type" == Value.type "type") = true := by decide
  repeat (any_goals (first | assumption | (rw [if_pos hm]) | (rw [hself]) | wp_step))
theorem issub_tuple {D : Addr} {n : Nat} {k : Value} {tk : Tok} {Q : Fin → Shared → Prop} (hk : k = .int 0 tk) (hD : s.heap.get? D = some { cls := .type "tuple", data := .seq [Value.type "str", Value.type "bytes"].toArray n }) (hq : ∀ tk', Q (.done (.ret (.bool true))) { s with toks := tk' }) :
    wpAny (model prog w) A (Builtin.«issubclass.nested» ⟨[.type "str", .ref D, k], []⟩) Q E s := by
  subst hk
  obtain ⟨h, g, d, t, os⟩ := s
  have hT2 : (⟨h, g, d, t, os⟩ : Shared).TypeIs (.ref D) "tuple" := ⟨_, hD, rfl⟩
  have f1 := F.isi_sub_tuple
  repeat (any_goals (first | assumption | wp_step))
  show codeAny (model prog w) A (Code.call (Value.builtin "issubclass.nested") ⟨[Value.type "str", Value.type "str", .int 1 0], []⟩) _ _
  refine codeAny_call_builtin plain_issubclass_nested F.entry_issubclass_nested ?_
  rw [check_issubclass_nested]
  refine wpAny_pure (issub_one rfl ?_)
  dsimp only
  refine wpAny_bind (m := truthy (.bool true)) (wpAny_pure ?_)
  exact wpAny_bind (wpAny_pure (wpAny_pure (wpAny_pure (wpAny_pure (hq _)))))
theorem issub_call {D : Addr} {n : Nat} {Q : Value → Shared → Prop} (hD : s.heap.get? D = some { cls := .type "tuple", data := .seq [Value.type "str", Value.type "bytes"].toArray n }) (hq : ∀ tk', Q (.bool true) { s with toks := tk' }) :
    wpAny (model prog w) A (call (.builtin "issubclass") [.type "str", .ref D]) Q E s :=
  call_issubclass (S := fun _ R s => s.heap.get? D = some { cls := .type "tuple", data := .seq [Value.type "str", Value.type "bytes"].toArray n } ∧ ∀ tk', R (.ok (.ret (.bool true))) { s with toks := tk' })
    (fun _ _ _ _ _ hs => issubclass_outer (issub_tuple rfl hs.1 fun tk' => hs.2 tk')) ⟨hD, hq⟩
end

section
variable {w : World} {p : Program} {loose : List Str} {mean : ExcName → Option Value} {mg mb : Str → Option Value}
  {dp un : Nat} {gd : Option (List Code)} {cn : Str} {cs : Scope} {a : Addr} {ccd : Value} {cl : List (Str × Addr)} {outer : List Env} {A₀ : Around} {base h₀ : Heap} {L : Addr} {m : Str → Option Value} {s : Shared} {Q E : Value → Shared → Prop}
  {news : List (Addr × Obj)}

theorem fspath_walk {x : Str} {t : Tok}
    (B : Below A₀ base outer h₀) (F : Fr h₀ L s.heap m) (X : (hd.heap_39 w.params).In h₀) (N : News h₀ L s.heap news) (T : Top p loose mean mg mb h₀) (hk : cs.kind = .function)
    (hr : dp + 10 < recursionLimit) (hu : un + 80 < cLine) (hx : x.length < 1000)
    (ret : ∀ h' tk', Fr h₀ L h' m → News h₀ L h' news → Q (.str x t) { s with heap := h', toks := tk' }) :
    wpAny (model Challenge.rw_pd0167_01.row.prog w) (ktrTop dp un gd cn cs L a ccd cl outer) (call (.ref 154) [.str x t]) Q E s := by
  revert X; k_fill; intro X
  refine wpAny_call ?_
  k_dflt cell_enter
  k_steps
  rename_i D' h1 F1 N1 l1
  refine issub_call (N1 _ (.head _)).1 fun tk' => ?_
  k_steps
  exact ret _ _ (by assumption) (fun q hq => by have := ‹News h₀ L _ (_ :: news)› q (.tail _ hq); exact this)

theorem getsep_walk {x : Str} {t : Tok}
    (B : Below A₀ base outer h₀) (F : Fr h₀ L s.heap m) (X : (hd.heap_39 w.params).In h₀) (N : News h₀ L s.heap news) (T : Top p loose mean mg mb h₀) (hk : cs.kind = .function)
    (hr : dp + 10 < recursionLimit) (hu : un + 80 < cLine) (hx : x.length < 1000)
    (ret : ∀ h' tk' t', Fr h₀ L h' m → News h₀ L h' news → Q (.str (Str.ofString "/") t') { s with heap := h', toks := tk' }) :
    wpAny (model Challenge.rw_pd0167_01.row.prog w) (ktrTop dp un gd cn cs L a ccd cl outer) (call (.ref 168) [.str x t]) Q E s := by
  revert X; k_fill; intro X
  refine wpAny_call ?_
  k_dflt cell_enter
  k_steps
  exact ret _ _ _ (by assumption) (by assumption)
end
end Mine
end

section
open PySem PySem.W PyProof.Rows PySem.Calls PySem.Spec
set_option Elab.async false
set_option maxRecDepth 100000
set_option maxHeartbeats 8000000
set_option pp.deepTerms false
set_option pp.deepTerms.threshold 4
set_option pp.maxSteps 20000
namespace Mine
theorem walk_start_B5 : True := by w_top off; trivial
local macro_rules | `(tactic| k_steps) => `(tactic| repeat' (
  (fail_if_success (with_reducible show wpAny _ _ (PySem.exec (Stmt.While _ _ _ _) _) _ _ _));
  (fail_if_success (with_reducible show wpAny _ _ (PySem.exec (Stmt.For _ _ _ _ _) _) _ _ _));
  (fail_if_success (with_reducible show wpAny _ _ (PySem.call (Value.ref _) _ _) _ _ _));
  (fail_if_success (with_reducible show wpAny _ _ (PySem.call (Value.builtin "list.append") _ _) _ _ _));
  (fail_if_success (with_reducible show wpAny _ _ (PySem.call (Value.builtin "list.pop") _ _) _ _ _));
  (fail_if_success (with_reducible show wpAny _ _ (truthy (Value.ref _)) _ _ _));
  (fail_if_success (with_reducible show wpAny _ _ (subscriptTail _ _ (Value.ref _) (Value.int _ _)) _ _ _));
  (fail_if_success (with_reducible show wpAny _ _ (setItem (Value.ref _) (Value.int _ _) _) _ _ _));
  (fail_if_success (with_reducible show Hold _));
  (first | ((with_reducible show wpAny _ _ (PySem.exec _ _) _ _ _); k_fold) | (k_unfold; (try dsimp only)) | (k_end; kc_close) | walk1 | (dsimp only; walk1) | (leave1; walk_say "STEP leave1"; (try dsimp only)) | fail "no step")))

section
variable {w : World} {p : Program} {loose : List Str} {mean : ExcName → Option Value} {mg mb : Str → Option Value}
  {dp un : Nat} {gd : Option (List Code)} {cn : Str} {cs : Scope} {a : Addr} {ccd : Value} {cl : List (Str × Addr)} {outer : List Env} {A₀ : Around} {base h₀ : Heap} {L : Addr} {m : Str → Option Value} {s : Shared} {Q E : Value → Shared → Prop}
  {news : List (Addr × Obj)}

def joinS (a b : Str) : Str := if Txt.startswith b (Str.ofString "/") = true then b else if (a.length : Int) = 0 then b else if Txt.endswith a (Str.ofString "/") = true then a ++ b else a ++ (Str.ofString "/" ++ b)
inductive JoinInv (news0 : List (Addr × Obj)) (x fin : Str) (t3 : Tok) (i : Nat) (m1 : Str → Option Value) (news1 : List (Addr × Obj)) : Prop where
  | mk : news1 = news0 → ∀ (z : Str) (t' : Tok), m1 (Str.ofString "path") = some (.str z t') → m1 (Str.ofString "sep") = some (.str (Str.ofString "/") t3) → (i = 0 → z = x) → (i = 1 → z = fin) → JoinInv news0 x fin t3 i m1 news1
theorem join_walk {x y : Str} {t u : Tok}
    (B : Below A₀ base outer h₀) (F : Fr h₀ L s.heap m) (X : (hd.heap_39 w.params).In h₀) (N : News h₀ L s.heap news) (T : Top p loose mean mg mb h₀) (hk : cs.kind = .function)
    (hr : dp + 20 < recursionLimit) (hu : un + 160 < cLine) (hx : x.length < 500) (hy : y.length < 500)
    (ret : ∀ h' tk' t', Fr h₀ L h' m → News h₀ L h' news → Q (.str (joinS x y) t') { s with heap := h', toks := tk' }) :
    wpAny (model Challenge.rw_pd0167_01.row.prog w) (ktrTop dp un gd cn cs L a ccd cl outer) (call (.ref 175) [.str x t, .str y u]) Q E s := by
  revert X; k_fill; intro X
  refine wpAny_call ?_
  k_dflt (refine' kp_rest ?k1 ?k2 ?k3 ?k4 ?k5 ?kA ?kF ?kK ?k6 ?k7 ?k8 ?kV ?kP ?kG ?kB ?_ ?c2 ?c3 ?c4 ?c5; (case kA => exact rfl); (case kF => exact rfl); (case kK => assumption); (case k1 => k_asm); (case k2 => k_asm); (case k3 => k_asm); (case k4 => k_asm); (case k5 => k_asm); (case k6 => k_is); (case k7 => k_is); (case k8 => ktr_room); (case kV => kl_lit); (case kP => exact rfl); (case kG => exact fun _ => rfl); (case kB => exact fun _ => locs rfl); (case c5 => decide); (case c2 => exact rfl); (case c3 => exact rfl); (case c4 => exact rfl); k_whole; intro D' g' L' h' l1 FG' F' N' B' X' T'; (try dsimp only); (try k_lift B'); (try k_fold))
  k_steps
  k_dflt (refine fspath_walk (by assumption) F' (by assumption) N' (by assumption) rfl (by ktr_room) (by ktr_units) (by omega) ?_)
  intro h1 tk1 F1 N1
  clear F' N'
  k_steps
  rename_i h2 F2 N2
  k_dflt (refine getsep_walk (by assumption) F2 (by assumption) N2 (by assumption) rfl (by ktr_room) (by ktr_units) (by omega) ?_)
  intro h3 tk3 t3 F3 N3
  clear F2 N2
  k_steps
  rename_i h4 F4 N4
  refine wpAny_noRaise (for_loop (h₀ := g') ?_)
  k_steps
  refine iter_tuple (JoinInv _ x (joinS x y) t3) rfl F4 N4 (.head _) ⟨rfl, x, t, rfl, rfl, fun _ => rfl, fun h => nomatch h⟩ (by rintro i m1 news1 ⟨rfl, _⟩; exact .head _) ?_ ?_
  · rintro i v m1 news1 h5 tk5 I o hv ⟨rfl, z, t', hz, hsep, hz0, hz1⟩ hoff F5 N5
    obtain ⟨rfl, rfl⟩ : i = 0 ∧ v = .str y u := by
      cases i with
      | zero => simpa using hv.symm
      | succ i => simp at hv
    obtain rfl := hz0 rfl
    have F6 := Fr.know (bs := [(Str.ofString "path", .str z t'), (Str.ofString "sep", .str (Str.ofString "/") t3)]) F5 ⟨hz, hsep, trivial⟩
    clear F5
    k_steps
    rename_i h7 F7 N7
    k_dflt (refine fspath_walk (by assumption) F7 (by assumption) N7 (by assumption) rfl (by ktr_room) (by ktr_units) (by omega) ?_)
    intro h8 tk8 F8 N8
    clear F7 N7
    k_steps
    all_goals (
      dsimp only [ForEnd]
      refine ⟨_, _, _, _, rfl, (by assumption), (by assumption), hoff, rfl, _, _, rfl, rfl, (fun h => nomatch h), fun _ => ?_⟩
      unfold joinS
      simp only [*, if_true, if_false, Bool.false_eq_true, ne_eq, not_false_eq_true])
  · rintro m1 news1 h5 tk5 ⟨rfl, z, t', hz, hsep, hz0, hz1⟩ F5 N5
    obtain rfl := hz1 rfl
    have F6 := Fr.know (bs := [(Str.ofString "path", .str (joinS x y) t')]) F5 ⟨hz, trivial⟩
    clear F5 F4 N4
    k_steps
    exact ret _ _ _ (by assumption) (fun q hq => by have := ‹News h₀ L _ (_ :: news)› q (.tail _ hq); exact this)
end
end Mine
end

section
open PySem PySem.W PyProof.Rows PySem.Calls PySem.Spec
set_option Elab.async false
set_option maxRecDepth 100000
set_option maxHeartbeats 8000000
set_option pp.deepTerms false
set_option pp.deepTerms.threshold 4
set_option pp.maxSteps 20000
namespace Mine
theorem walk_start_B6 : True := by w_top off; trivial
local macro_rules | `(tactic| k_steps) => `(tactic| repeat' (
  (fail_if_success (with_reducible show wpAny _ _ (PySem.exec (Stmt.While _ _ _ _) _) _ _ _));
  (fail_if_success (with_reducible show wpAny _ _ (PySem.exec (Stmt.For _ _ _ _ _) _) _ _ _));
  (fail_if_success (with_reducible show wpAny _ _ (PySem.call (Value.ref _) _ _) _ _ _));
  (fail_if_success (with_reducible show wpAny _ _ (PySem.call (Value.builtin "list.append") _ _) _ _ _));
  (fail_if_success (with_reducible show wpAny _ _ (PySem.call (Value.builtin "list.pop") _ _) _ _ _));
  (fail_if_success (with_reducible show wpAny _ _ (truthy (Value.ref _)) _ _ _));
  (fail_if_success (with_reducible show wpAny _ _ (subscriptTail _ _ (Value.ref _) (Value.int _ _)) _ _ _));
  (fail_if_success (with_reducible show wpAny _ _ (setItem (Value.ref _) (Value.int _ _) _) _ _ _));
  (fail_if_success (with_reducible show Hold _));
  (first | ((with_reducible show wpAny _ _ (PySem.exec _ _) _ _ _); k_fold) | (k_unfold; (try dsimp only)) | (k_end; kc_close) | walk1 | (dsimp only; walk1) | (leave1; walk_say "STEP leave1"; (try dsimp only)) | fail "no step")))

section
variable {w : World} {p : Program} {loose : List Str} {mean : ExcName → Option Value} {mg mb : Str → Option Value}
  {dp un : Nat} {gd : Option (List Code)} {cn : Str} {cs : Scope} {a : Addr} {ccd : Value} {cl : List (Str × Addr)} {outer : List Env} {A₀ : Around} {base h₀ : Heap} {L : Addr} {m : Str → Option Value} {s : Shared} {Q E : Value → Shared → Prop}
  {news : List (Addr × Obj)}

abbrev tupO (vs : List Value) : Obj := { cls := .type "tuple", data := .seq vs.toArray }
def splitS (x : Str) : Str × Str :=
  if (Txt.slice x none (some 1) != Str.ofString "/") = true then (Str.ofString "", x)
  else if (Txt.slice x (some 1) (some 2) != Str.ofString "/") = true then (Str.ofString "/", Txt.slice x (some 1) none)
  else if (Txt.slice x (some 2) (some 3) == Str.ofString "/") = true then (Str.ofString "/", Txt.slice x (some 1) none)
  else (Txt.slice x none (some 2), Txt.slice x (some 2) none)
theorem splitroot_walk {x : Str} {t : Tok}
    (B : Below A₀ base outer h₀) (F : Fr h₀ L s.heap m) (X : (hd.heap_39 w.params).In h₀) (N : News h₀ L s.heap news) (T : Top p loose mean mg mb h₀) (hk : cs.kind = .function)
    (hr : dp + 20 < recursionLimit) (hu : un + 160 < cLine) (hx : x.length < 1000)
    (ret : ∀ h' tk' D' t1 t2 t3, Fr h₀ L h' m → News h₀ L h' ((D', tupO [.str (Str.ofString "") t1, .str (splitS x).1 t2, .str (splitS x).2 t3]) :: news) → (∀ q ∈ news, q.1 < D') → Q (.ref D') { s with heap := h', toks := tk' }) :
    wpAny (model Challenge.rw_pd0167_01.row.prog w) (ktrTop dp un gd cn cs L a ccd cl outer) (call (.ref 182) [.str x t]) Q E s := by
  revert X; k_fill; intro X
  refine wpAny_call ?_
  k_dflt cell_enter
  k_steps
  rename_i g' L' h' FG' F' N' B' X' T' _ _
  k_dflt (refine fspath_walk (by assumption) F' (by assumption) N' (by assumption) rfl (by ktr_room) (by ktr_units) (by omega) ?_)
  intro h1 tk1 F1 N1
  clear F' N'
  k_steps
  all_goals (
    have hN := ‹News h₀ L _ (_ :: news)›
    refine ret _ _ _ _ _ _ (by assumption) (by
      unfold splitS
      simp only [*, if_true, if_false, Bool.false_eq_true]
      exact hN) (by assumption))
end
end Mine
end

section
open PySem PySem.W PyProof.Rows PySem.Calls PySem.Spec
set_option Elab.async false
set_option maxRecDepth 100000
set_option maxHeartbeats 8000000
set_option pp.deepTerms false
set_option pp.deepTerms.threshold 4
set_option pp.maxSteps 20000
namespace Mine
theorem walk_start_B7 : True := by w_top off; trivial
local macro_rules | `(tactic| k_steps) => `(tactic| repeat' (
  (fail_if_success (with_reducible show wpAny _ _ (PySem.exec (Stmt.While _ _ _ _) _) _ _ _));
  (fail_if_success (with_reducible show wpAny _ _ (PySem.exec (Stmt.For _ _ _ _ _) _) _ _ _));
  (fail_if_success (with_reducible show wpAny _ _ (PySem.call (Value.ref _) _ _) _ _ _));
  (fail_if_success (with_reducible show wpAny _ _ (PySem.call (Value.builtin "list.append") _ _) _ _ _));
  (fail_if_success (with_reducible show wpAny _ _ (PySem.call (Value.builtin "list.pop") _ _) _ _ _));
  (fail_if_success (with_reducible show wpAny _ _ (PySem.call (Value.builtin "str.split") _ _) _ _ _));
  (fail_if_success (with_reducible show wpAny _ _ (PySem.call (Value.builtin "str.join") _ _) _ _ _));
  (fail_if_success (with_reducible show wpAny _ _ (truthy (Value.ref _)) _ _ _));
  (fail_if_success (with_reducible show wpAny _ _ (subscriptTail _ _ (Value.ref _) (Value.int _ _)) _ _ _));
  (fail_if_success (with_reducible show wpAny _ _ (setItem (Value.ref _) (Value.int _ _) _) _ _ _));
  (fail_if_success (with_reducible show Hold _));
  (first | ((with_reducible show wpAny _ _ (PySem.exec _ _) _ _ _); k_fold) | (k_unfold; (try dsimp only)) | (k_end; kc_close) | walk1 | (dsimp only; walk1) | (leave1; walk_say "STEP leave1"; (try dsimp only)) | fail "no step")))

section
variable {w : World} {p : Program} {loose : List Str} {mean : ExcName → Option Value} {mg mb : Str → Option Value}
  {dp un : Nat} {gd : Option (List Code)} {cn : Str} {cs : Scope} {a : Addr} {ccd : Value} {cl : List (Str × Addr)} {outer : List Env} {A₀ : Around} {base h₀ : Heap} {L : Addr} {m : Str → Option Value} {s : Shared} {Q E : Value → Shared → Prop}
  {news : List (Addr × Obj)}

def IsS (v : Value) (x : Str) : Prop := ∃ t, v = .str x t
theorem all2_of_strs {vs : List Value} {xs : List Str} (h : StrsAre vs xs) : All2 IsS vs xs := by
  induction h with
  | nil => exact .nil
  | cons y t _ ih => exact .cons ⟨t, rfl⟩ ih
theorem strs_of_all2 {vs : List Value} {xs : List Str} (h : All2 IsS vs xs) : StrsAre vs xs := by
  induction h with
  | nil => exact .nil
  | cons h _ ih => obtain ⟨t, rfl⟩ := h; exact .cons _ t ih
theorem lastD_snoc (l : List Str) (z d : Str) : (l ++ [z]).getLastD d = z := by
  induction l with
  | nil => rfl
  | cons a l ih => cases l <;> simp_all [List.getLastD]
theorem snoc_ne (l : List Str) (z : Str) : l ++ [z] ≠ [] := by cases l <;> simp
theorem News.sub {h₀ h : Heap} {L : Addr} {l l' : List (Addr × Obj)} (N : News h₀ L h l) (hs : ∀ q ∈ l', q ∈ l) : News h₀ L h l' := fun q hq => N q (hs q hq)
theorem News.swap {h₀ h : Heap} {L : Addr} {p q : Addr × Obj} {l : List (Addr × Obj)} (N : News h₀ L h (p :: q :: l)) : News h₀ L h (q :: p :: l) := by
  intro x hx
  rcases List.mem_cons.mp hx with rfl | hx
  · exact N _ (.tail _ (.head _))
  · rcases List.mem_cons.mp hx with rfl | hx
    · exact N _ (.head _)
    · exact N _ (.tail _ (.tail _ hx))
/-- one part of a path, as normpath takes it -/
def normStep (init : Str) (acc : List Str) (c : Str) : List Str :=
  if (c.length : Int) = 0 then acc
  else if (c == Str.ofString ".") = true then acc
  else if (c != Str.ofString "..") = true then acc ++ [c]
  else if (init.length : Int) = 0 ∧ acc = [] then acc ++ [c]
  else if acc ≠ [] ∧ (acc.getLastD Str.empty == Str.ofString "..") = true then acc ++ [c]
  else acc.dropLast
def normParts (x : Str) : List Str := (Txt.split (splitS x).2 (Str.ofString "/")).foldl (normStep (splitS x).1) []
theorem foldl_take_succ {α β : Type} (f : β → α → β) (b : β) (l : List α) (i : Nat) (d : α) (hi : i < l.length) : (l.take (i + 1)).foldl f b = f ((l.take i).foldl f b) (l.getD i d) := by
  rw [List.take_add_one, List.foldl_append, List.getD_eq_getElem?_getD, List.getElem?_eq_getElem hi]
  rfl
theorem allLt_mem {d : Addr} : ∀ {l : List (Addr × Obj)}, AllLt d l → ∀ q ∈ l, q.1 < d := by
  intro l
  induction l with
  | nil => intro _ q hq; exact nomatch hq
  | cons a l ih =>
    intro h q hq
    rcases List.mem_cons.mp hq with rfl | hq
    · exact h.1
    · exact ih h.2 q hq
theorem sub_last {prog : Program} {w : World} {A : Around} {E : Value → Shared → Prop} {s : Shared} {h₀ : Heap} {L l : Addr} {n : Nat} {news : List (Addr × Obj)} {value slice : PySem.Expr} {u : Tok} {vs : List Value} {v : Value} {Q : Value → Shared → Prop} (N : News h₀ L s.heap news) (hm : (l, listOf (vs ++ [v]).toArray n) ∈ news) (hl : vs.length < 1000) (h : Q v s)
    (hs : subscripted slice false (.ref l) (.int (-1) u) = operate [.ref l, .int (-1) u] (getItem (.ref l) (.int (-1) u)) := by with_unfolding_all rfl) :
    wpAny (model prog w) A (subscriptTail value slice (.ref l) (.int (-1) u)) Q E s := by
  have hL := PySem.IsL.isList (N _ hm).1
  refine tail_any hL.typeIs slot_list_getitem.lookup (wpAny_getItem_list_neg hL (by omega) (by simp; omega) (by omega) ?_ h) hs
  have e : ((-1 : Int) + ((vs ++ [v]).toArray.size : Int)).toNat = vs.length := by simp; omega
  rw [e]
  simp
inductive NormInv (D7 : Addr) (tl : List (Addr × Obj)) (init : Str) (t2 : Tok) (parts : List Str) (i : Nat) (m1 : Str → Option Value) (news1 : List (Addr × Obj)) : Prop where
  | mk (vs : List Value) (n : Nat) (acc : List Str) (td tdd ts : Tok) : news1 = (D7, listOf vs.toArray n) :: tl →
      Has m1 [(Str.ofString "new_comps", .ref D7), (Str.ofString "dot", .str (Str.ofString ".") td), (Str.ofString "dotdot", .str (Str.ofString "..") tdd), (Str.ofString "sep", .str (Str.ofString "/") ts), (Str.ofString "initial_slashes", .str init t2)] →
      All2 IsS vs acc → acc.length ≤ i → acc = (parts.take i).foldl (normStep init) [] → NormInv D7 tl init t2 parts i m1 news1
theorem normpath_walk {x : Str} {t : Tok}
    (B : Below A₀ base outer h₀) (F : Fr h₀ L s.heap m) (X : (hd.heap_39 w.params).In h₀) (N : News h₀ L s.heap news) (T : Top p loose mean mg mb h₀) (hk : cs.kind = .function)
    (hr : dp + 30 < recursionLimit) (hu : un + 240 < cLine) (hx : x.length < 1000) (hx2 : (splitS x).2.length < 1000) (hx1 : (splitS x).1.length < 1000) (hx0 : (x.length : Int) ≠ 0) (hin : ((splitS x).1.length : Int) ≠ 0) (hx3 : ∀ c ∈ Txt.split (splitS x).2 (Str.ofString "/"), c.length < 1000) (hx5 : ((normParts x).map (·.length)).sum + (normParts x).length * (Str.ofString "/").length ≤ 16777216) (hx6 : (Txt.join (Str.ofString "/") (normParts x)).length < 1000) (hx4 : (Txt.split (splitS x).2 (Str.ofString "/")).length < 1000)
    (ret : ∀ h' tk' t', Fr h₀ L h' m → News h₀ L h' news → Q (.str ((splitS x).1 ++ Txt.join (Str.ofString "/") (normParts x)) t') { s with heap := h', toks := tk' }) :
    wpAny (model Challenge.rw_pd0167_01.row.prog w) (ktrTop dp un gd cn cs L a ccd cl outer) (call (.ref 189) [.str x t]) Q E s := by
  revert X; k_fill; intro X
  refine wpAny_call ?_
  k_dflt cell_enter
  k_steps
  rename_i g' L' h' FG' F' N' B' X' T' _ _
  k_dflt (refine fspath_walk (by assumption) F' (by assumption) N' (by assumption) rfl (by ktr_room) (by ktr_units) (by omega) ?_)
  intro h1 tk1 F1 N1
  clear F' N'
  k_steps
  · rename_i h2 F2 N2 _ _ _ hne0
    k_dflt (refine splitroot_walk (by assumption) F2 (by assumption) N2 (by assumption) rfl (by ktr_room) (by ktr_units) (by omega) ?_)
    intro h3 tk3 D3 t1 t2 t3 F3 N3 l3
    clear F2 N2
    unfold normParts at hx5 hx6 ret
    generalize (splitS x).1 = init at *
    generalize (splitS x).2 = rst at *
    k_steps
    rename_i h4 F4 N4
    refine KSpl.split1 (x := rst) (y := Str.ofString "/") F4 N4 (by decide) ?_ (by rw [sizeLine_eq]; omega)
    intro D5 l5 h5 k5 e5 a5 F5 N5 lt5
    generalize Txt.split rst (Str.ofString "/") = parts at *
    clear F4 N4
    k_steps
    rename_i D7 h7 lt7 h6 F6 N6
    have hc5 : All2 IsS (strValues l5) parts := by rw [← e5]; exact all2_of_strs a5
    refine wpAny_noRaise (for_loop (h₀ := g') ?_)
    k_steps
    refine iter_list (NormInv D7 ((D5, listOf (strValues l5).toArray 0) :: (D3, tupO [.str (Str.ofString "") t1, .str init t2, .str rst t3]) :: news) init t2 parts) rfl F6 N6 (.tail _ (.head _)) ⟨[], _, [], _, _, _, rfl, ⟨rfl, rfl, rfl, rfl, rfl, trivial⟩, .nil, by simp, rfl⟩ (by rintro i m1 news1 ⟨vs, n, acc, td, tdd, ts, rfl, _⟩; exact .tail _ (.head _)) ?_ ?_
    · rintro i v m1 news1 h8 tk8 I o hv ⟨vs, n, acc, td, tdd, ts, rfl, hm1, hall, hlen, hacc⟩ hoff F8 N8
      have hi : i < parts.length := by have := hc5.length; have := (List.getElem?_eq_some_iff.mp hv).1; omega
      obtain ⟨v', hv', tc, hIc⟩ := hc5.get i Str.empty hi
      obtain rfl : v = v' := by rw [hv] at hv'; exact Option.some.inj hv'
      subst hIc
      have hstep : (parts.take (i + 1)).foldl (normStep init) [] = normStep init acc (parts.getD i Str.empty) := by
        rw [hacc]; exact foldl_take_succ _ _ _ _ _ hi
      have hcl : (parts.getD i Str.empty).length < 1000 := hx3 _ (by rw [List.getD_eq_getElem?_getD, List.getElem?_eq_getElem hi]; exact List.getElem_mem _)
      generalize (parts.getD i Str.empty) = c at *
      have hlen2 := hall.length
      have F9 := Fr.know F8 hm1
      have N9 := News.swap N8
      clear F8 N8 F6 N6
      have hne : ∀ q ∈ (I, o) :: (D5, listOf (strValues l5).toArray 0) :: (D3, tupO [.str (Str.ofString "") t1, .str init t2, .str rst t3]) :: news, q.1 ≠ D7 := by
        intro q hq
        rcases List.mem_cons.mp hq with rfl | hq
        · exact fun e => hoff _ (.head _) e.symm
        · rcases List.mem_cons.mp hq with rfl | hq
          · exact Nat.ne_of_lt lt7.1
          · rcases List.mem_cons.mp hq with rfl | hq
            · exact Nat.ne_of_lt lt7.2.1
            · exact Nat.ne_of_lt (allLt_mem lt7.2.2 q hq)
      have hoff' : ∀ (o' : Obj), ∀ q ∈ (D7, o') :: (D5, listOf (strValues l5).toArray 0) :: (D3, tupO [.str (Str.ofString "") t1, .str init t2, .str rst t3]) :: news, q.1 ≠ I := by
        intro o' q hq
        rcases List.mem_cons.mp hq with rfl | hq
        · exact hoff (D7, listOf vs.toArray n) (.head _)
        · exact hoff q (.tail _ hq)
      k_steps
      · rename_i h9 F9' N9' _ _ _ hc1 hc2
        dsimp only [ForEnd]
        exact ⟨_, _, _, _, rfl, F9', News.swap N9', hoff' _, _, _, _, _, _, _, rfl, ⟨rfl, rfl, rfl, rfl, rfl, trivial⟩, hall, by omega, by rw [hstep, normStep, if_neg hc1, if_pos hc2]⟩
      · rename_i h9 F9' N9' _ _ _ hc1 hc2 _ _ hc3
        refine append_head F9' N9' hne (by omega) ?_
        intro h10 F10 N10
        clear F9' N9'
        k_steps
        dsimp only [ForEnd]
        exact ⟨_, _, _, _, rfl, F10, News.swap N10, hoff' _, _, _, _, _, _, _, rfl, ⟨rfl, rfl, rfl, rfl, rfl, trivial⟩, hall.snoc ⟨tc, rfl⟩, by simp; omega, by rw [hstep, normStep, if_neg hc1, if_neg (by rw [hc2]; simp), if_pos hc3]⟩
      · rename_i h9 F9' N9' _ _ _ hc1 hc2 hc3 hc4
        refine truthy_mem N9' (.head _) (by omega) ?_
        k_steps
        · rename_i hem
          obtain rfl : vs = [] := by simpa using hem
          obtain rfl : acc = [] := by cases hall; rfl
          refine truthy_mem N9' (.head _) (by simp) ?_
          k_steps
          dsimp only [ForEnd]
          exact ⟨_, _, _, _, rfl, F9', News.swap N9', hoff' _, _, _, _, _, _, _, rfl, ⟨rfl, rfl, rfl, rfl, rfl, trivial⟩, hall, by simp, by rw [hstep, normStep, if_neg hc1, if_neg (by rw [hc2]; simp), if_neg (by rw [hc3]; simp), if_neg (fun e => hc4 e.1), if_neg (by simp)]; rfl⟩
        · rename_i hem
          obtain ⟨vs', y, acc', z, rfl, rfl, hall', tz, rfl⟩ := hall.unsnoc (by intro e; subst e; simp at hem)
          simp only [List.length_append, List.length_singleton] at hlen hlen2
          refine sub_last N9' (.head _) (by omega) ?_
          k_steps
          · rename_i hz
            refine append_head F9' N9' hne (by simp; omega) ?_
            intro h10 F10 N10
            clear F9' N9'
            k_steps
            dsimp only [ForEnd]
            exact ⟨_, _, _, _, rfl, F10, News.swap N10, hoff' _, _, _, _, _, _, _, rfl, ⟨rfl, rfl, rfl, rfl, rfl, trivial⟩, hall.snoc ⟨tc, rfl⟩, by simp; omega, by rw [hstep, normStep, if_neg hc1, if_neg (by rw [hc2]; simp), if_neg (by rw [hc3]; simp), if_neg (fun e => hc4 e.1), if_pos ⟨snoc_ne _ _, by rw [lastD_snoc]; exact hz⟩]⟩
          · rename_i hz
            refine truthy_mem N9' (.head _) (by simp; omega) ?_
            k_steps
            rename_i hem2
            · refine pop_head F9' N9' hne (by omega) ?_
              intro h10 F10 N10
              clear F9' N9'
              k_steps
              dsimp only [ForEnd]
              exact ⟨_, _, _, _, rfl, F10, News.swap N10, hoff' _, _, _, _, _, _, _, rfl, ⟨rfl, rfl, rfl, rfl, rfl, trivial⟩, hall', by omega, by rw [hstep, normStep, if_neg hc1, if_neg (by rw [hc2]; simp), if_neg (by rw [hc3]; simp), if_neg (fun e => hc4 e.1), if_neg (fun e => by have e2 := e.2; rw [lastD_snoc, hz] at e2; cases e2), List.dropLast_concat]⟩
      · exact absurd ‹(init.length : Int) = 0› hin
      · rename_i h9 F9' N9' _ _ _ hc1
        dsimp only [ForEnd]
        exact ⟨_, _, _, _, rfl, F9', News.swap N9', hoff' _, _, _, _, _, _, _, rfl, ⟨rfl, rfl, rfl, rfl, rfl, trivial⟩, hall, by omega, by rw [hstep, normStep, if_pos hc1]⟩
    · rintro m1 news1 h8 tk8 ⟨vs, n, acc, td, tdd, ts, rfl, hm1, hall, hlen, hacc⟩ F8 N8
      have F9 := Fr.know F8 hm1
      clear F8 F6 N6
      k_steps
      rename_i h9 F9' N9'
      rw [hc5.length, List.take_length] at hacc
      rw [← hacc] at hx5 hx6 ret
      have hst : StrsAre vs.toArray.toList acc := strs_of_all2 hall
      have hIL := PySem.IsL.isList (N9' _ (.head _)).1
      refine join_list (ys := acc) hIL hst hx5 ?_
      intro t9 k9
      clear hall hst hIL hx5 hacc hc5 hx3 hx4
      generalize Txt.join (Str.ofString "/") acc = jn at *
      k_steps
      · exact ret _ _ _ (by assumption) (fun q hq => by have := ‹News h₀ L _ (_ :: _ :: _ :: news)› q (.tail _ (.tail _ (.tail _ hq))); exact this)
      · exfalso
        have : ((init ++ jn).length : Int) = 0 := by assumption
        rw [Str.length_append] at this
        omega
  · exact absurd ‹(x.length : Int) = 0› hx0
end
end Mine
end

section
open PySem PySem.W PyProof.Rows PySem.Calls PySem.Spec
set_option Elab.async false
set_option maxRecDepth 100000
set_option maxHeartbeats 8000000
set_option pp.deepTerms false
set_option pp.deepTerms.threshold 4
set_option pp.maxSteps 20000
namespace Mine
theorem walk_start_B8 : True := by w_top off; trivial
local macro_rules | `(tactic| k_steps) => `(tactic| repeat' (
  (fail_if_success (with_reducible show wpAny _ _ (PySem.exec (Stmt.While _ _ _ _) _) _ _ _));
  (fail_if_success (with_reducible show wpAny _ _ (PySem.exec (Stmt.For _ _ _ _ _) _) _ _ _));
  (fail_if_success (with_reducible show wpAny _ _ (PySem.call (Value.ref _) _ _) _ _ _));
  (fail_if_success (with_reducible show wpAny _ _ (PySem.call (Value.builtin "list.append") _ _) _ _ _));
  (fail_if_success (with_reducible show wpAny _ _ (PySem.call (Value.builtin "list.pop") _ _) _ _ _));
  (fail_if_success (with_reducible show wpAny _ _ (PySem.call (Value.builtin "str.split") _ _) _ _ _));
  (fail_if_success (with_reducible show wpAny _ _ (PySem.call (Value.builtin "str.join") _ _) _ _ _));
  (fail_if_success (with_reducible show wpAny _ _ (truthy (Value.ref _)) _ _ _));
  (fail_if_success (with_reducible show wpAny _ _ (subscriptTail _ _ (Value.ref _) (Value.int _ _)) _ _ _));
  (fail_if_success (with_reducible show wpAny _ _ (setItem (Value.ref _) (Value.int _ _) _) _ _ _));
  (fail_if_success (with_reducible show Hold _));
  (first | ((with_reducible show wpAny _ _ (PySem.exec _ _) _ _ _); k_fold) | (k_unfold; (try dsimp only)) | (k_end; kc_close) | walk1 | (dsimp only; walk1) | (leave1; walk_say "STEP leave1"; (try dsimp only)) | fail "no step")))

section
variable {w : World} {p : Program} {loose : List Str} {mean : ExcName → Option Value} {mg mb : Str → Option Value}
  {dp un : Nat} {gd : Option (List Code)} {cn : Str} {cs : Scope} {a : Addr} {ccd : Value} {cl : List (Str × Addr)} {outer : List Env} {A₀ : Around} {base h₀ : Heap} {L : Addr} {m : Str → Option Value} {s : Shared} {Q E : Value → Shared → Prop}
  {news : List (Addr × Obj)}


def eqS (x : Str) : Value → Bool
  | .str y _ => y == x
  | _ => false
theorem eqS_all {vs : List Value} {xs : List Str} (x : Str) (t : Tok) (h : All2 IsS vs xs) : (∀ y, y ∈ vs.toArray → MeetsSeq.EqGives y (.str x t) (eqS x y)) ∧ vs.toArray.any (eqS x) = xs.any (· == x) := by
  rw [List.any_toArray]
  induction h with
  | nil => exact ⟨fun y hy => by simp at hy, rfl⟩
  | cons h1 _ ih =>
    obtain ⟨u, rfl⟩ := h1
    refine ⟨fun y hy => ?_, ?_⟩
    · rcases List.mem_cons.mp (List.mem_toArray.mp hy) with rfl | hy'
      · exact eqGives_str _ _ _ _
      · exact ih.1 y (List.mem_toArray.mpr hy')
    · rw [List.any_cons, List.any_cons, ih.2]; rfl
theorem in_strs {prog : Program} {w : World} {A : Around} {E : Value → Shared → Prop} {s : Shared} {h₀ : Heap} {L l : Addr} {n : Nat} {news : List (Addr × Obj)} {vs : List Value} {xs : List Str} {x : Str} {t : Tok} {Q : Value → Shared → Prop} (N : News h₀ L s.heap news) (hm : (l, listOf vs.toArray n) ∈ news) (hall : All2 IsS vs xs) (h : Q (.bool (xs.any (· == x))) s) :
    wpAny (model prog w) A (compareOp .In (.str x t) (.ref l)) Q E s := by
  obtain ⟨h1, h2⟩ := eqS_all x t hall
  exact PySem.SeqRoads2.in_list (eqS x) h1 (N _ hm).1 (by rw [h2]; exact h)
theorem notIn_strs {prog : Program} {w : World} {A : Around} {E : Value → Shared → Prop} {s : Shared} {h₀ : Heap} {L l : Addr} {n : Nat} {news : List (Addr × Obj)} {vs : List Value} {xs : List Str} {x : Str} {t : Tok} {Q : Value → Shared → Prop} (N : News h₀ L s.heap news) (hm : (l, listOf vs.toArray n) ∈ news) (hall : All2 IsS vs xs) (h : Q (.bool (!xs.any (· == x))) s) :
    wpAny (model prog w) A (compareOp .NotIn (.str x t) (.ref l)) Q E s := by
  obtain ⟨h1, h2⟩ := eqS_all x t hall
  exact PySem.SeqRoads2.notIn_list (eqS x) h1 (N _ hm).1 (by rw [h2]; exact h)
/-- the server's answer -/
def replyS (x : Str) (bs : List Str) : Str :=
  if 2 < Txt.count x (Str.ofString "/") then Str.ofString "550 no way to " ++ x
  else if bs.any (· == x) = true then Str.ofString "550 no way to " ++ x
  else (Str.ofString "257 \"" ++ Txt.replace x (Str.ofString "\"") (Str.ofString "\"\"")) ++ Str.ofString "\" is \"here\""

theorem reply_walk {x : Str} {t : Tok} {bd : Addr} {bvs : List Value} {bn : Nat} {bs : List Str}
    (B : Below A₀ base outer h₀) (F : Fr h₀ L s.heap m) (X : (hd.heap_39 w.params).In h₀) (N : News h₀ L s.heap news) (T : Top p loose mean mg mb h₀) (hk : cs.kind = .function)
    (hr : dp + 30 < recursionLimit) (hu : un + 240 < cLine) (hx : x.length < 1000) (hrep : (Txt.replace x (Str.ofString "\"") (Str.ofString "\"\"")).length < 1000) (hbd : (bd, listOf bvs.toArray bn) ∈ news) (hall : All2 IsS bvs bs)
    (ret : ∀ h' tk' t', Fr h₀ L h' m → News h₀ L h' news → Q (.str (replyS x bs) t') { s with heap := h', toks := tk' }) :
    wpAny (model Challenge.rw_pd0167_01.row.prog w) (ktrTop dp un gd cn cs L a ccd cl outer) (call (.ref 196) [.str x t, .ref bd]) Q E s := by
  revert X; k_fill; intro X
  refine wpAny_call ?_
  k_dflt cell_enter
  k_steps
  · have e : replyS x bs = Str.ofString "550 no way to " ++ x := by unfold replyS; rw [if_pos (by assumption)]
    rw [e] at ret
    exact ret _ _ _ (by assumption) (by assumption)
  · rename_i g' L' h' FG' F' N' B' X' T' _ _ hc
    refine in_strs N' hbd hall ?_
    k_steps
    · have e : replyS x bs = Str.ofString "550 no way to " ++ x := by unfold replyS; rw [if_neg hc, if_pos (by assumption)]
      rw [e] at ret
      exact ret _ _ _ (by assumption) (by assumption)
    · have e : replyS x bs = (Str.ofString "257 \"" ++ Txt.replace x (Str.ofString "\"") (Str.ofString "\"\"")) ++ Str.ofString "\" is \"here\"" := by
        have hany : (bs.any fun x_1 => x_1 == x) = false := by assumption
        unfold replyS; rw [if_neg hc, if_neg (by rw [hany]; exact Bool.false_ne_true)]
      rw [e] at ret
      exact ret _ _ _ (by assumption) (by assumption)
end
end Mine
end

section
open PySem PySem.W PyProof.Rows PySem.Calls PySem.Spec
set_option Elab.async false
set_option maxRecDepth 100000
set_option maxHeartbeats 8000000
set_option pp.deepTerms false
set_option pp.deepTerms.threshold 4
set_option pp.maxSteps 20000
namespace Mine
theorem walk_start_B9 : True := by w_top off; trivial
local macro_rules | `(tactic| k_steps) => `(tactic| repeat' (
  (fail_if_success (with_reducible show wpAny _ _ (PySem.exec (Stmt.While _ _ _ _) _) _ _ _));
  (fail_if_success (with_reducible show wpAny _ _ (PySem.exec (Stmt.For _ _ _ _ _) _) _ _ _));
  (fail_if_success (with_reducible show wpAny _ _ (PySem.call (Value.ref _) _ _) _ _ _));
  (fail_if_success (with_reducible show wpAny _ _ (PySem.call (Value.builtin "list.append") _ _) _ _ _));
  (fail_if_success (with_reducible show wpAny _ _ (PySem.call (Value.builtin "list.pop") _ _) _ _ _));
  (fail_if_success (with_reducible show wpAny _ _ (PySem.call (Value.builtin "str.split") _ _) _ _ _));
  (fail_if_success (with_reducible show wpAny _ _ (PySem.call (Value.builtin "str.join") _ _) _ _ _));
  (fail_if_success (with_reducible show wpAny _ _ (truthy (Value.ref _)) _ _ _));
  (fail_if_success (with_reducible show wpAny _ _ (subscriptTail _ _ (Value.ref _) (Value.int _ _)) _ _ _));
  (fail_if_success (with_reducible show wpAny _ _ (setItem (Value.ref _) (Value.int _ _) _) _ _ _));
  (fail_if_success (with_reducible show Hold _));
  (first | ((with_reducible show wpAny _ _ (PySem.exec _ _) _ _ _); k_fold) | (k_unfold; (try dsimp only)) | (k_end; kc_close) | walk1 | (dsimp only; walk1) | (leave1; walk_say "STEP leave1"; (try dsimp only)) | fail "no step")))

section
variable {w : World} {p : Program} {loose : List Str} {mean : ExcName → Option Value} {mg mb : Str → Option Value}
  {dp un : Nat} {gd : Option (List Code)} {cn : Str} {cs : Scope} {a : Addr} {ccd : Value} {cl : List (Str × Addr)} {outer : List Env} {A₀ : Around} {base h₀ : Heap} {L : Addr} {m : Str → Option Value} {s : Shared} {Q E : Value → Shared → Prop}
  {news : List (Addr × Obj)}


/-- what parse257 makes of the signs from i on -/
def pS (x : Str) (i : Nat) (d : Str) : Str :=
  if i < x.length then
    if (Txt.item x (i : Int) == Str.ofString "\"") = true then
      if x.length ≤ i + 1 then d
      else if (Txt.item x ((i : Int) + 1) != Str.ofString "\"") = true then d
      else pS x (i + 2) (d ++ Txt.item x (i : Int))
    else pS x (i + 1) (d ++ Txt.item x (i : Int))
  else d
termination_by x.length - i
inductive PaPost (g' : Heap) (L' : Addr) (gs : Array GenState) (dr : Drawn) (os : OsState) (news : List (Addr × Obj)) (fin : Str) (f : Flow) (s2 : Shared) : Prop where
  | mk : f = .next → ∀ (h2 : Heap) (tk2 : Tok) (m2 : Str → Option Value) (t2 : Tok), s2 = ⟨h2, gs, dr, tk2, os⟩ → Fr g' L' h2 m2 → News g' L' h2 news → Has m2 [(Str.ofString "dirname", .str fin t2)] → PaPost g' L' gs dr os news fin f s2
inductive PaInv (news : List (Addr × Obj)) (x : Str) (t : Tok) (fin : Str) (nn : Nat) (m1 : Str → Option Value) (news1 : List (Addr × Obj)) : Prop where
  | mk (iI : Int) (d : Str) (ti tn td : Tok) : 0 ≤ iI → iI ≤ (x.length : Int) → nn = x.length - iI.toNat → news1 = news → Has m1 [(Str.ofString "resp", .str x t), (Str.ofString "i", .int iI ti), (Str.ofString "n", .int (x.length : Int) tn), (Str.ofString "dirname", .str d td)] →
      d.length ≤ iI.toNat → pS x iI.toNat d = fin → PaInv news x t fin nn m1 news1
theorem parse_walk {x : Str} {t : Tok}
    (B : Below A₀ base outer h₀) (F : Fr h₀ L s.heap m) (X : (hd.heap_39 w.params).In h₀) (N : News h₀ L s.heap news) (T : Top p loose mean mg mb h₀) (hk : cs.kind = .function)
    (hr : dp + 30 < recursionLimit) (hu : un + 240 < cLine) (hx : x.length < 1000) (hx6 : 5 ≤ x.length) (hx3 : (Txt.slice x none (some 3) != Str.ofString "257") = false) (hx5 : (Txt.slice x (some 3) (some 5) != Str.ofString " \"") = false)
    (ret : ∀ h' tk' t', Fr h₀ L h' m → News h₀ L h' news → Q (.str (pS x 5 (Str.ofString "")) t') { s with heap := h', toks := tk' }) :
    wpAny (model Challenge.rw_pd0167_01.row.prog w) (ktrTop dp un gd cn cs L a ccd cl outer) (call (.ref 53) [.str x t]) Q E s := by
  revert X; k_fill; intro X
  refine wpAny_call ?_
  k_dflt cell_enter
  rename_i g' L' h' FG' F' N' B' X' T'
  k_steps
  rename_i h4 F4 N4
  refine wpAny_mono (Q := fun f s2 => Hold (PaPost g' L' s.gens s.drawn s.os news (pS x 5 (Str.ofString "")) f s2)) ?loop ?after (fun _ _ h => h)
  case after =>
    rintro f s2 ⟨rfl, h2, tk2, m2, t2, rfl, F2, N2, hm2⟩
    have F2' := Fr.know F2 hm2
    clear F2 F4 N4
    k_steps
    exact ret _ _ _ (by assumption) (by assumption)
  refine While_inv3 (PaInv news x t (pS x 5 (Str.ofString ""))) F4 N4 ⟨5, Str.ofString "", _, _, _, by omega, by omega, rfl, rfl, ⟨rfl, rfl, rfl, rfl, trivial⟩, by decide, rfl⟩ ?_
  rintro nn m1 news1 h2 tk2 F2 N2 ⟨iI, d, ti, tn, td, hi0, hi1, rfl, hnw, hm1, hdl, hfin⟩
  subst hnw
  obtain ⟨q, rfl⟩ := Int.eq_ofNat_of_zero_le hi0
  rw [Int.toNat_natCast] at hfin hdl
  have F2' := Fr.know F2 hm1
  clear F2 F4 N4
  k_steps
  · rename_i hlt _ _ _ _ _ _ _ h5 F5 N5 _ _ _ hq _ _ hle
    dsimp only [WEnd]
    have e : pS x 5 (Str.ofString "") = d := by rw [← hfin, pS, if_pos (by omega), if_pos hq, if_pos (by omega)]
    exact Hold.mk ⟨rfl, _, _, _, td, rfl, F5, N5, ⟨by rw [e]; rfl, trivial⟩⟩
  · have hq := ‹(Txt.item x (q : Int) == Str.ofString "\"") = true›
    have hq2 := ‹(Txt.item x ((q : Int) + 1) != Str.ofString "\"") = true›
    dsimp only [WEnd]
    have e : pS x 5 (Str.ofString "") = d := by rw [← hfin, pS, if_pos (by omega), if_pos hq, if_neg (by omega), if_pos hq2]
    refine Hold.mk ⟨rfl, _, _, _, td, rfl, (by assumption), (by assumption), ⟨by rw [e]; rfl, trivial⟩⟩
  · have hq := ‹(Txt.item x (q : Int) == Str.ofString "\"") = true›
    have hq2 := ‹(Txt.item x ((q : Int) + 1) != Str.ofString "\"") = false›
    dsimp only [WEnd]
    refine ⟨_, _, _, _, x.length - (q + 2), rfl, (by assumption), (by assumption), by omega, (q : Int) + 1 + 1, d ++ Txt.item x q, _, _, _, by omega, by omega, by omega, rfl, ⟨rfl, rfl, rfl, rfl, trivial⟩, by rw [Str.length_append]; omega, ?_⟩
    have e : ((q : Int) + 1 + 1).toNat = q + 2 := by omega
    rw [e, ← hfin]
    conv => rhs; rw [pS, if_pos (by omega), if_pos hq, if_neg (by omega), if_neg (by rw [hq2]; exact Bool.false_ne_true)]
  · have hq := ‹(Txt.item x (q : Int) == Str.ofString "\"") = false›
    dsimp only [WEnd]
    refine ⟨_, _, _, _, x.length - (q + 1), rfl, (by assumption), (by assumption), by omega, (q : Int) + 1, d ++ Txt.item x q, _, _, _, by omega, by omega, by omega, rfl, ⟨rfl, rfl, rfl, rfl, trivial⟩, by rw [Str.length_append]; omega, ?_⟩
    have e : ((q : Int) + 1).toNat = q + 1 := by omega
    rw [e, ← hfin]
    conv => rhs; rw [pS, if_pos (by omega), if_neg (by rw [hq]; exact Bool.false_ne_true)]
  · have e : pS x 5 (Str.ofString "") = d := by rw [← hfin, pS, if_neg (by omega)]
    exact Hold.mk ⟨rfl, _, _, _, td, rfl, F2', N2, ⟨by rw [e]; rfl, trivial⟩⟩
end
end Mine
end

section
open PySem PySem.W PyProof.Rows PySem.Calls PySem.Spec
set_option Elab.async false
set_option maxRecDepth 100000
set_option maxHeartbeats 8000000
namespace Mine
theorem walk_start_BG : True := by w_top off; trivial

/-- the end of a turn of a while, over any state -/
def WStep (I : Nat → Shared → Prop) (Q : Flow → Shared → Prop) (n : Nat) (f : Flow) (s₃ : Shared) : Prop :=
  match f with
  | .next | .cont => ∃ n', n' < n ∧ I n' s₃
  | .brk => Q .next s₃
  | .ret v => Q (.ret v) s₃

theorem While_any {prog : Program} {w : World} {A : Around} {E : Value → Shared → Prop} {Q : Flow → Shared → Prop} {s : Shared} {env : Env} {test : PySem.Expr} {body : List Stmt} {pos : Pos} (I : Nat → Shared → Prop) {n₀ : Nat} (h0 : I n₀ s)
    (turn : ∀ n s₁, I n s₁ → wpAny (model prog w) A (isTrue test env (eval test env)) (fun b s₂ => if b = true then wpAny (model prog w) A (execs body env) (WStep I Q n) E s₂ else Q .next s₂) E s₁)
    (hE : PassesOwn (model prog w) A env E := by passes_own) :
    wpAny (model prog w) A (exec (.While test body [] pos) env) Q E s := by
  refine wpAny_While (codeAny_whileLoop I ?_ n₀ h0)
  intro n s' h'
  refine wpAny_mono (turn n s' h') (fun b s₂ h₂ => ?_) hE
  cases b with
  | false =>
    simp only [Bool.false_eq_true, if_false] at h₂ ⊢
    exact wpAny_execs_nil h₂
  | true =>
    simp only [if_true] at h₂ ⊢
    refine wpAny_mono h₂ (fun f s₃ h₃ => ?_) hE
    cases f with
    | next => exact h₃
    | cont => exact h₃
    | brk => exact h₃
    | ret v => exact h₃

inductive ForNextG (Gd : Heap → Prop) (L : Addr) (gs : Array GenState) (dr : Drawn) (os : OsState) (q : Addr × Obj) (J : (Str → Option Value) → List (Addr × Obj) → Prop) (s₃ : Shared) : Prop where
  | mk (g h' : Heap) (tk : Tok) (m₂ : Str → Option Value) (news₂ : List (Addr × Obj)) : s₃ = ⟨h', gs, dr, tk, os⟩ → Gd g → Fr g L h' m₂ → News g L h' (q :: news₂) → (∀ p ∈ news₂, p.1 ≠ q.1) → J m₂ news₂ → ForNextG Gd L gs dr os q J s₃
/-- the end of a turn of a for whose ground may turn -/
def ForEndG (Gd : Heap → Prop) (L : Addr) (s : Shared) (q : Addr × Obj) (J : (Str → Option Value) → List (Addr × Obj) → Prop) (Q : Flow → Shared → Prop) (f : Flow) (s₃ : Shared) : Prop :=
  match f with
  | .ret v => Q (.ret v) s₃
  | .brk => Q .next s₃
  | _ => ForNextG Gd L s.gens s.drawn s.os q J s₃

structure LoopAtG (prog : Program) (w : World) (A : Around) (Gd : Heap → Prop) (env : Env) (target : PySem.Expr) (body : List Stmt) (Q : Flow → Shared → Prop) (I : Addr) (s : Shared)
    (fix : List (Addr × Obj)) (n : Nat) (P : Nat → Value → Prop) (St : Nat → Heap → Prop) (m : Str → Option Value) (news : List (Addr × Obj)) (J : Nat → (Str → Option Value) → List (Addr × Obj) → Prop) : Prop where
  W : Walks prog w A I (I :: fix.map (·.1)) [I] n P St
  st0 : St 0 s.heap
  at' : ∀ i h, St i h → ∃ o nm, h.get? I = some o ∧ o.cls = .type nm ∧ owners.contains nm = false
  IL : I ≠ env.locals
  new : ∀ g, Gd g → g.get? I = none
  off : ∀ p ∈ news, p.1 ≠ I
  F : ∃ g, Gd g ∧ Fr g env.locals s.heap m ∧ News g env.locals s.heap news
  j0 : J 0 m news
  fixed : ∀ i m news, J i m news → ∀ q ∈ fix, q ∈ news
  turn : ∀ i v m₁ news₁ g h tk o, i < n → P i v → J i m₁ news₁ → (∀ p ∈ news₁, p.1 ≠ I) → Gd g → Fr g env.locals h m₁ → News g env.locals h ((I, o) :: news₁) →
    wpAny (model prog w) A (assign target env v) (fun _ s₂ => wpAny (model prog w) A (execs body env) (ForEndG Gd env.locals s (I, o) (J (i + 1)) Q) (fun _ _ => False) s₂) (fun _ _ => False) { s with heap := h, toks := tk }
  done : ∀ m₁ news₁ g h tk, J n m₁ news₁ → Gd g → Fr g env.locals h m₁ → News g env.locals h news₁ → Q .next { s with heap := h, toks := tk }

theorem for_loopG {prog : Program} {w : World} {A : Around} {Gd : Heap → Prop} {env : Env} {target iter : PySem.Expr} {body : List Stmt} {pos : Pos} {Q : Flow → Shared → Prop} {s : Shared}
    (h : wpAny (model prog w) A (eval iter env) (fun xv s₁ => wpAny (model prog w) A (pyIter xv) (fun it s₂ => ∃ I fix n P St m news J, it = .ref I ∧ LoopAtG prog w A Gd env target body Q I s₂ fix n P St m news J) (fun _ _ => False) s₁) (fun _ _ => False) s)
    (hs : ∀ x, foldedSetIterable iter env x = pure x := by intro _; rfl) :
    wpAny (model prog w) A (exec (.For target iter body [] pos) env) Q (fun _ _ => False) s := by
  refine wpAny_For (wpAny_mono h (fun xv s₁ h₁ => wpAny_mono h₁ (fun it s₂ h₂ => ?_) fun _ _ e => e) fun _ _ e => e) hs
  obtain ⟨I, fix, n, P, St, m, news, J, rfl, Z⟩ := h₂
  obtain ⟨g₀, G₀, F₀, N₀⟩ := Z.F
  refine codeAny_forLoop_any (fun k s' => ∃ g h' tk m' news' i, s' = { s₂ with heap := h', toks := tk } ∧ Gd g ∧ St i h' ∧ Fr g env.locals h' m' ∧ News g env.locals h' news' ∧ (∀ p ∈ news', p.1 ≠ I) ∧ J i m' news' ∧ i ≤ n ∧ k = n + 1 - i) ?_ (n + 1)
    ⟨g₀, s₂.heap, s₂.toks, m, news, 0, rfl, G₀, Z.st0, F₀, N₀, Z.off, Z.j0, Nat.zero_le _, rfl⟩
  rintro k s' ⟨g, h', tk, m', news', i, rfl, hG, hst', F', N', hoff', hJ, hi, rfl⟩
  have next : ∀ h₁ : Heap, (∀ b o, b ∉ [I] → h'.get? b = some o → h₁.get? b = some o) → Fr g env.locals h₁ m' ∧ News g env.locals h₁ news' := fun h₁ hk₁ =>
    ⟨⟨F'.ns.at' fun o e => hk₁ _ o (fun hm => Z.IL (List.mem_singleton.mp hm).symm) e, fun b o e => hk₁ b o (fun hm => by have := Z.new g hG; rw [← List.mem_singleton.mp hm, e] at this; cases this) (F'.keep b o e), F'.above⟩,
      fun p hp => ⟨hk₁ _ _ (fun hm => hoff' p hp (List.mem_singleton.mp hm)) (N' p hp).1, (N' p hp).2⟩⟩
  by_cases hlt : i < n
  · refine Z.W.item i _ _ _ hlt hst' fun v h₁ tk₁ hP hst₁ hk₁ => ?_
    obtain ⟨F₁, N₁⟩ := next h₁ hk₁
    obtain ⟨o, nm, ho, hoc, hon⟩ := Z.at' _ _ hst₁
    have N₂ : News g env.locals h₁ ((I, o) :: news') := by
      intro p hp
      rcases List.mem_cons.mp hp with rfl | hp
      · exact ⟨ho, Z.IL, Z.new g hG⟩
      · exact N₁ p hp
    refine go_pass ho hoc hon ?_
    refine wpAny_mono (Z.turn i v m' news' g h₁ tk₁ o hlt hP hJ hoff' hG F₁ N₂) (fun _ s₃ h₃ => wpAny_mono h₃ (fun f s₄ h₄ => ?_) fun _ _ e => e.elim) fun _ _ e => e.elim
    have fin : ForNextG Gd env.locals s₂.gens s₂.drawn s₂.os (I, o) (J (i + 1)) s₄ →
        ∃ m, m < n + 1 - i ∧ ∃ g h' tk m' news' i, s₄ = { s₂ with heap := h', toks := tk } ∧ Gd g ∧ St i h' ∧ Fr g env.locals h' m' ∧ News g env.locals h' news' ∧ (∀ p ∈ news', p.1 ≠ I) ∧ J i m' news' ∧ i ≤ n ∧ m = n + 1 - i := by
      rintro ⟨g₃, h₃', tk₃, m₂, news₂, rfl, G₃, F₃, N₃, ho₃, hJ₃⟩
      refine ⟨n + 1 - (i + 1), by omega, g₃, h₃', tk₃, m₂, news₂, i + 1, rfl, G₃, ?_, F₃, fun p hp => N₃ p (.tail _ hp), ho₃, hJ₃, hlt, rfl⟩
      refine Z.W.frame _ _ _ hst₁ fun b hb o' e => ?_
      rcases List.mem_cons.mp hb with rfl | hb
      · rw [ho] at e; cases e; exact (N₃ _ (.head _)).1
      · obtain ⟨q, hq, rfl⟩ := List.mem_map.mp hb
        have h1 := (N₁ q (Z.fixed _ _ _ hJ q hq)).1
        rw [h1] at e; cases e
        exact (N₃ q (.tail _ (Z.fixed _ _ _ hJ₃ q hq))).1
    cases f with
    | ret v => exact h₄
    | brk => exact h₄
    | next => exact fin h₄
    | cont => exact fin h₄
  · have hin : i = n := by omega
    subst hin
    refine Z.W.done _ _ _ hst' fun h₁ tk₁ hk₁ => wpAny_execs_nil ?_
    obtain ⟨F₁, N₁⟩ := next h₁ hk₁
    exact Z.done m' news' g h₁ tk₁ hJ hG F₁ N₁

theorem iter_listG {prog : Program} {w : World} {A : Around} {Gd : Heap → Prop} {g₀ : Heap} {env : Env} {target : PySem.Expr} {body : List Stmt} {Q : Flow → Shared → Prop} {s : Shared} {m : Str → Option Value} {news : List (Addr × Obj)} {vs : List Value} {l : Addr} {k : Nat}
    (J : Nat → (Str → Option Value) → List (Addr × Obj) → Prop) (hh : A.handled = none) (hG : Gd g₀) (hnone : ∀ g b, Gd g → g₀.get? b = none → g.get? b = none) (F : Fr g₀ env.locals s.heap m) (N : News g₀ env.locals s.heap news) (hl : (l, listOf vs.toArray k) ∈ news) (hj : J 0 m news)
    (fixed : ∀ i m news, J i m news → (l, listOf vs.toArray k) ∈ news)
    (turn : ∀ i v m₁ news₁ g h tk I o, vs[i]? = some v → J i m₁ news₁ → (∀ p ∈ news₁, p.1 ≠ I) → Gd g → Fr g env.locals h m₁ → News g env.locals h ((I, o) :: news₁) →
      wpAny (model prog w) A (assign target env v) (fun _ s₂ => wpAny (model prog w) A (execs body env) (ForEndG Gd env.locals s (I, o) (J (i + 1)) Q) (fun _ _ => False) s₂) (fun _ _ => False) { s with heap := h, toks := tk })
    (done : ∀ m₁ news₁ g h tk, J vs.length m₁ news₁ → Gd g → Fr g env.locals h m₁ → News g env.locals h news₁ → Q .next { s with heap := h, toks := tk }) :
    wpAny (model prog w) A (pyIter (.ref l)) (fun it s₂ => ∃ I fix n P St m news J, it = .ref I ∧ LoopAtG prog w A Gd env target body Q I s₂ fix n P St m news J) (fun _ _ => False) s := by
  have hL : s.heap.IsList l vs.toArray := PySem.IsL.isList (N _ hl).1
  have hne : l ≠ s.heap.objs.size := Nat.ne_of_lt (Heap.lt_size (N _ hl).1)
  refine wpAny_pyIter_list hL ?_
  refine ⟨s.heap.objs.size, [(l, listOf vs.toArray k)], vs.toArray.size, (fun i v => vs.toArray[i]? = some v), (fun i h => h.IsListIter s.heap.objs.size l i ∧ h.IsList l vs.toArray), m, news, J, rfl, ?_⟩
  have W := Walks.list (prog := prog) (w := w) hh s.heap.objs.size l hne vs.toArray
  refine { W := W, st0 := ⟨⟨_, Heap.get?_push_size _ rfl, rfl, rfl⟩, hL.at fun o e => Heap.get?_push_of_some _ e⟩, at' := ?_, IL := Nat.ne_of_gt F.ns.lt, new := fun g hg => hnone g _ hg (next_is_new F), off := fun p hp => Nat.ne_of_lt (Heap.lt_size (N p hp).1), F := ⟨g₀, hG, F.push _, fun p hp => ⟨Heap.get?_push_of_some _ (N p hp).1, (N p hp).2⟩⟩, j0 := hj, fixed := ?_, turn := ?_, done := ?_ }
  · rintro i h ⟨⟨o, ho, hc, _⟩, _⟩; exact ⟨o, _, ho, hc, by decide⟩
  · intro i m' news' hJ q hq
    rw [List.mem_singleton.mp hq]; exact fixed i m' news' hJ
  · intro i v m₁ news₁ g h tk o hi hP hJ hoff hg F₁ N₁
    exact turn i v m₁ news₁ g h tk _ o (by simpa using hP) hJ hoff hg F₁ N₁
  · intro m₁ news₁ g h tk hJ hg F₁ N₁
    exact done m₁ news₁ g h tk (by simpa using hJ) hg F₁ N₁
end Mine

namespace Mine
section
variable {prog : Program} {w : World} {A₀ A : Around} {s : Shared} {h₀ : Heap} {L : Addr} {m : Str → Option Value} {env : Env} {news : List (Addr × Obj)} {K : Frag} {p : Program} {loose : List Str} {mean : ExcName → Option Value} {mg mb : Str → Option Value}
  {R : Result → Shared → Prop} {name qual : Str} {params : Arguments} {body : List Stmt} {scope : Scope} {dV kV doc pm cdv ct oc : Value} {an od : Option Addr} {osl : Array (Option Value)} {f : Addr} {args : Args} {binds : List (Str × Value)}

/-- a def with a try in it is entered from the law's own frame, whatever cells that frame has -/
theorem enterG (B : Below A₀ h₀ [] h₀) (F : Fr h₀ L s.heap m) (X₀ : K.In h₀) (N : News h₀ L s.heap news) (T : Top p loose mean mg mb h₀) (hA : A.frames = some [env]) (hf : env.frame = some L) (hke : env.scope.kind = .function)
    (ho : K.lookup f = some ⟨oc, od, .func (fnOf name qual params body scope dV kV doc pm an cdv ct), osl⟩) (hcd : codeIn K cdv qual = true) (hroom : A.depth < recursionLimit)
    (hbind : BindsTo s (fnOf name qual params body scope dV kV doc pm an cdv ct) args binds) (hloc : ∀ y ∈ binds, scope.names.lookup y.1 = some .local)
    (h : ∀ g L' h₁, Fr g L' h₁ (fun y => binds.reverse.lookup y) → News g L' h₁ news → Below A h₀ [env] g → K.In g → Top p loose mean mg mb g → KtsDicts ([env].filterMap (·.frame)) g →
      wpAny (model prog w) (A.deeper (envOf qual scope L' f cdv)) (execs body (envOf qual scope L' f cdv))
        (fun fl s' => LeaveS0 ([env].filterMap (·.frame)) h₀ L m g R (match fl with | .ret v => v | _ => .none) s')
        (fun e s' => wpAny (model prog w) (A.deeper (envOf qual scope L' f cdv)) (leaving (envOf qual scope L' f cdv) e) (fun _ s'' => R (.error e) s'') (fun e' s'' => R (.error e') s'') s')
        { s with heap := h₁, toks := s.toks + binds.length })
    (hco : scope.isCoroutine = false) (hgen : scope.isGenerator = false) (hk : scope.kind = .function)
    (hcell : ∀ x ∈ scope.names, x.2 ≠ .cell) : codeAny (model prog w) A (.call (.ref f) args) R s := by
  have X := X₀.keeps F.keep
  have nL₀ : h₀.get? L = none := kts_self F
  have onlyL : ∀ b, b ∈ [env].filterMap (·.frame) → b = L := by
    intro b hb
    rw [List.filterMap_cons, hf] at hb
    rcases List.mem_cons.mp hb with h | h
    · exact h
    · exact nomatch h
  obtain ⟨FG, BG, st, _⟩ := groundX (R := R) B F N hA hf hke
  refine codeAny_call_def (fd := fnOf name qual params body scope dV kV doc pm an cdv ct) (body := body) (binds := binds) hroom (X _ _ ho) rfl (T.nolimit.keeps F.keep) (codeRec_of X hcd) rfl hbind hcell hloc (fun h₁ hns hk₁ => ?_) hco hgen hk
  obtain ⟨oL, es, ep, hLg, hLd, hLk, hLf⟩ := id FG.ns
  have entry := h _ s.heap.objs.size h₁ ⟨hns, fun b o e => hk₁ b o (of_hideAll _ e), Nat.le_of_eq (hideAll_size _ _)⟩
    (fun q hq => ⟨hk₁ _ _ (N q hq).1, Nat.ne_of_lt (Heap.lt_size (N q hq).1), hideAll_none _ (List.mem_map_of_mem hq)⟩) BG (X₀.keeps st) (T.keeps st) (fun b hb => by
      rw [onlyL b hb]; exact ⟨oL, es, ep, hLg, hLd⟩)
  refine wpAny_mono entry (fun fl s' hl => ?_) fun _ _ y => y
  obtain ⟨g', L', m', news', T', F', N', k⟩ := hl
  obtain ⟨sl, hs⟩ := T'.up hLg
  have kept : ∀ b o, h₀.get? b = some o → g'.get? b = some o := fun b o e => T'.other b o (st b o e) fun q => by rw [onlyL b q, nL₀] at e; cases e
  refine k ⟨⟨_, es, ep, F'.keep _ _ hs, hLd, hLk, hLf⟩, fun b o e => F'.keep b o (kept b o e), F.above⟩ fun q hq => ⟨(N' q hq).1, fun e => ?_, ?_⟩
  · have z := (N' q hq).2.2
    rw [e, hs] at z; cases z
  · cases e : h₀.get? q.1 with
    | none => rfl
    | some o =>
      have z := (N' q hq).2.2
      rw [kept _ _ e] at z; cases z
end

/-- a ground that has turned below a frame -/
structure Gnd (A : Around) (base : Heap) (outer : List Env) (K : Frag) (p : Program) (loose : List Str) (mean : ExcName → Option Value) (mg mb : Str → Option Value) (g₀ g : Heap) : Prop where
  T : KtsTurn (outer.filterMap (·.frame)) g₀ g
  B : Below A base outer g
  X : K.In g
  P : Top p loose mean mg mb g
  D : KtsDicts (outer.filterMap (·.frame)) g
end Mine
end

section
open PySem PySem.W PyProof.Rows PySem.Calls PySem.Spec
set_option Elab.async false
namespace Mine
theorem walk_start_P1 : True := by w_top off; trivial

theorem ltP_iff (a b : Int × Str) : ltP a b = true ↔ (a.1 < b.1 ∨ (a.1 = b.1 ∧ a.2.cps.toList < b.2.cps.toList)) := by
  unfold ltP
  by_cases h : a.1 = b.1
  · rw [if_pos h]
    by_cases h2 : a.2 = b.2
    · rw [if_pos h2, h2]
      constructor
      · intro e; cases e
      · rintro (e | ⟨_, e⟩)
        · omega
        · exact absurd e (List.lt_irrefl _)
    · rw [if_neg h2]
      simp [h]
  · rw [if_neg h]
    simp [h]
theorem ltP_irrefl (a : Int × Str) : ltP a a = false := by simp [ltP]
theorem ltP_trans {a b c : Int × Str} (h1 : ltP a b = true) (h2 : ltP b c = true) : ltP a c = true := by
  rw [ltP_iff] at *
  rcases h1 with h1 | ⟨h1, h1'⟩ <;> rcases h2 with h2 | ⟨h2, h2'⟩
  · left; omega
  · left; omega
  · left; omega
  · exact .inr ⟨by omega, List.lt_trans h1' h2'⟩
theorem ltP_tot {a b : Int × Str} (h1 : ltP a b = false) (h2 : ltP b a = false) : a = b := by
  have n1 : ¬ (ltP a b = true) := by rw [h1]; simp
  have n2 : ¬ (ltP b a = true) := by rw [h2]; simp
  rw [ltP_iff] at n1 n2
  have e1 : a.1 = b.1 := by
    have : ¬ a.1 < b.1 := fun h => n1 (.inl h)
    have : ¬ b.1 < a.1 := fun h => n2 (.inl h)
    omega
  have e2 : a.2.cps.toList = b.2.cps.toList := by
    have m1 : ¬ a.2.cps.toList < b.2.cps.toList := fun h => n1 (.inr ⟨e1, h⟩)
    have m2 : ¬ b.2.cps.toList < a.2.cps.toList := fun h => n2 (.inr ⟨e1.symm, h⟩)
    exact List.le_antisymm (List.not_lt.mp m2) (List.not_lt.mp m1)
  obtain ⟨i, ⟨x⟩⟩ := a
  obtain ⟨j, ⟨y⟩⟩ := b
  obtain rfl : i = j := e1
  obtain rfl : x = y := Array.toList_inj.mp e2
  rfl
def leP (a b : Int × Str) : Prop := ltP b a = false
theorem leP_refl (a : Int × Str) : leP a a := ltP_irrefl a
theorem leP_of_lt {a b : Int × Str} (h : ltP a b = true) : leP a b := by
  unfold leP
  cases e : ltP b a with
  | false => rfl
  | true => have := ltP_trans h e; rw [ltP_irrefl] at this; cases this
theorem leP_trans {a b c : Int × Str} (h1 : leP a b) (h2 : leP b c) : leP a c := by
  unfold leP at *
  cases e : ltP c a with
  | false => rfl
  | true =>
    exfalso
    cases e2 : ltP a b with
    | true => have := ltP_trans e e2; rw [h2] at this; cases this
    | false => have := ltP_tot e2 h1; subst this; rw [h2] at e; cases e
theorem lt_of_le_of_ne {a b : Int × Str} (h : leP a b) (hne : a ≠ b) : ltP a b = true := by
  cases e : ltP a b with
  | true => rfl
  | false => exact absurd (ltP_tot e h) hne
theorem leP_fst {a b : Int × Str} (h : leP a b) : a.1 ≤ b.1 := by
  unfold leP at h
  have n1 : ¬ (ltP b a = true) := by rw [h]; simp
  rw [ltP_iff] at n1
  have : ¬ b.1 < a.1 := fun h => n1 (.inl h)
  omega

def gt (xs : List (Int × Str)) (i : Nat) : Int × Str := xs.getD i D0
theorem gt_set {xs : List (Int × Str)} {i j : Nat} {x : Int × Str} (h : i < xs.length) : gt (xs.set i x) j = if j = i then x else gt xs j := by
  unfold gt
  rw [List.getD_eq_getElem?_getD, List.getD_eq_getElem?_getD, List.getElem?_set]
  by_cases e : i = j
  · subst e; simp [h]
  · rw [if_neg e, if_neg (fun e' => e e'.symm)]
theorem gt_eq {xs : List (Int × Str)} {i : Nat} (h : i < xs.length) : gt xs i = xs[i] := by
  unfold gt
  rw [List.getD_eq_getElem?_getD, List.getElem?_eq_getElem h]; rfl
def Hp (xs : List (Int × Str)) : Prop := ∀ i, 0 < i → i < xs.length → leP (gt xs ((i - 1) / 2)) (gt xs i)

theorem sdown_len (x : Int × Str) (st pos : Nat) (xs : List (Int × Str)) : (sdown x st pos xs).length = xs.length := by
  rw [sdown]
  split
  · split
    · rw [sdown_len]; simp
    · simp
  · simp
termination_by pos
decreasing_by omega

theorem set_set_perm {xs : List (Int × Str)} {q pos : Nat} {x : Int × Str} (hq : q < pos) (hp : pos < xs.length) : ((xs.set pos (gt xs q)).set q x).Perm (xs.set pos x) := by
  rw [List.perm_iff_count]
  intro a
  have e : (xs.set pos (gt xs q))[q]'(by simp; omega) = gt xs q := by
    rw [gt_eq (by omega), List.getElem_set_ne (by omega)]
  unfold List.count
  rw [List.countP_set (h := by simp; omega), List.countP_set (h := hp), List.countP_set (h := hp), e]
  generalize (if (gt xs q == a) = true then 1 else 0) = c
  generalize (if (x == a) = true then 1 else 0) = d
  omega

theorem sdown_perm (x : Int × Str) (st pos : Nat) (xs : List (Int × Str)) (hp : pos < xs.length) : (sdown x st pos xs).Perm (xs.set pos x) := by
  rw [sdown]
  split
  · split
    · refine (sdown_perm x st ((pos - 1) / 2) _ (by simp; omega)).trans ?_
      exact set_set_perm (by omega) hp
    · exact .refl _
  · exact .refl _
termination_by pos
decreasing_by omega

def Exc (pos : Nat) (ys : List (Int × Str)) : Prop := (∀ i, 0 < i → i < ys.length → i ≠ pos → leP (gt ys ((i - 1) / 2)) (gt ys i)) ∧ (∀ i, 0 < i → i < ys.length → (i - 1) / 2 = pos → 0 < pos → leP (gt ys ((pos - 1) / 2)) (gt ys i))
theorem sdown_heap (x : Int × Str) (pos : Nat) (xs : List (Int × Str)) (hp : pos < xs.length) (hE : Exc pos (xs.set pos x)) : Hp (sdown x 0 pos xs) := by
  rw [sdown]
  obtain ⟨h1, h2⟩ := hE
  simp only [List.length_set, gt_set hp] at h1 h2
  split
  · rename_i h0
    split
    · rename_i hlt
      have hlt : ltP x (gt xs ((pos - 1) / 2)) = true := hlt
      have hle := leP_of_lt hlt
      refine sdown_heap x ((pos - 1) / 2) _ (by simp; omega) ?_
      have hq : (pos - 1) / 2 < (xs.set pos (xs.getD ((pos - 1) / 2) (0, Str.empty))).length := by simp; omega
      have hqp : (pos - 1) / 2 ≠ pos := by omega
      unfold Exc
      simp only [List.length_set, gt_set hq, gt_set hp]
      have e : xs.getD ((pos - 1) / 2) (0, Str.empty) = gt xs ((pos - 1) / 2) := rfl
      rw [e]
      generalize hqe : (pos - 1) / 2 = q at *
      refine ⟨fun i i0 il inq => ?_, fun i i0 il ip q0 => ?_⟩
      · have k1 := h1 i i0 il
        have k2 := h2 i i0 il
        rw [if_neg inq]
        by_cases ipos : i = pos
        · subst ipos
          rw [hqe, if_pos rfl, if_pos rfl]; exact hle
        · rw [if_neg ipos] at k1 k2 ⊢
          have k1 := k1 ipos
          by_cases pq : (i - 1) / 2 = q
          · rw [if_pos pq]
            rw [pq, if_neg hqp] at k1
            exact leP_trans hle k1
          · rw [if_neg pq]
            by_cases pp : (i - 1) / 2 = pos
            · rw [if_pos pp]
              have := k2 pp h0
              rwa [if_neg hqp] at this
            · rw [if_neg pp] at k1 ⊢
              exact k1
      · have hq1 := h1 q q0 (by omega) hqp
        have npq : (q - 1) / 2 ≠ q := by omega
        have npp : (q - 1) / 2 ≠ pos := by omega
        rw [if_neg npp, if_neg hqp] at hq1
        rw [if_neg npq, if_neg npp]
        have niq : i ≠ q := by omega
        rw [if_neg niq]
        by_cases ipos : i = pos
        · rw [if_pos ipos]; exact hq1
        · rw [if_neg ipos]
          have := h1 i i0 il ipos
          rw [ip, if_neg hqp, if_neg ipos] at this
          exact leP_trans hq1 this
    · rename_i hnl
      have hnl : ltP x (gt xs ((pos - 1) / 2)) = false := Bool.eq_false_iff.mpr hnl
      intro i i0 il
      simp only [List.length_set] at il
      simp only [gt_set hp]
      by_cases ipos : i = pos
      · subst ipos
        rw [if_pos rfl, if_neg (by omega)]; exact hnl
      · exact h1 i i0 il ipos
  · intro i i0 il
    simp only [List.length_set] at il
    simp only [gt_set hp]
    exact h1 i i0 il (by omega)
termination_by pos
decreasing_by omega

theorem kid_spec {c : Nat} {xs : List (Int × Str)} (hc : c < xs.length) : (kid c xs = c ∨ kid c xs = c + 1) ∧ kid c xs < xs.length ∧ leP (gt xs (kid c xs)) (gt xs c) ∧ (c + 1 < xs.length → leP (gt xs (kid c xs)) (gt xs (c + 1))) := by
  unfold kid
  split
  · rename_i h
    exact ⟨.inr rfl, h.1, h.2, fun _ => leP_refl _⟩
  · rename_i h
    refine ⟨.inl rfl, hc, leP_refl _, fun h2 => ?_⟩
    refine leP_of_lt ?_
    cases e : ltP (xs.getD c D0) (xs.getD (c + 1) D0) with
    | true => exact e
    | false => exact absurd ⟨h2, e⟩ h

def Hole (pos : Nat) (xs : List (Int × Str)) : Prop := (∀ i, 0 < i → i < xs.length → i ≠ pos → (i - 1) / 2 ≠ pos → leP (gt xs ((i - 1) / 2)) (gt xs i)) ∧ (∀ i, 0 < i → i < xs.length → (i - 1) / 2 = pos → 0 < pos → leP (gt xs ((pos - 1) / 2)) (gt xs i))
theorem supL_spec (pos : Nat) (xs : List (Int × Str)) (hp : pos < xs.length) (hH : Hole pos xs) (x : Int × Str) :
    (supL pos xs).1 < (supL pos xs).2.length ∧ (supL pos xs).2.length = xs.length ∧ Exc (supL pos xs).1 ((supL pos xs).2.set (supL pos xs).1 x) ∧ ((supL pos xs).2.set (supL pos xs).1 x).Perm (xs.set pos x) := by
  rw [supL]
  split
  · rename_i hc
    obtain ⟨k1, k2, k3, k4⟩ := kid_spec hc
    generalize kid (2 * pos + 1) xs = c at *
    have hpc : (c - 1) / 2 = pos := by omega
    have := supL_spec c (xs.set pos (xs.getD c D0)) (by simp; omega) ?_ x
    · obtain ⟨a1, a2, a3, a4⟩ := this
      refine ⟨a1, by rw [a2]; simp, a3, a4.trans ?_⟩
      have e : xs.getD c D0 = gt xs c := rfl
      rw [e]
      rw [List.perm_iff_count]
      intro a
      have e : (xs.set pos (gt xs c))[c]'(by simp; omega) = gt xs c := by
        rw [gt_eq (by omega), List.getElem_set_ne (by omega)]
      unfold List.count
      rw [List.countP_set (h := by simp; omega), List.countP_set (h := hp), List.countP_set (h := hp), e]
      generalize (if (gt xs c == a) = true then 1 else 0) = c
      generalize (if (x == a) = true then 1 else 0) = d
      omega
    · obtain ⟨h1, h2⟩ := hH
      unfold Hole
      have e : xs.getD c D0 = gt xs c := rfl
      rw [e]
      simp only [List.length_set, gt_set hp]
      refine ⟨fun i i0 il inc ipc => ?_, fun i i0 il ip c0 => ?_⟩
      · by_cases ipos : i = pos
        · subst ipos
          rw [if_neg (by omega), if_pos rfl]
          exact h2 c (by omega) k2 hpc i0
        · rw [if_neg ipos]
          by_cases pp : (i - 1) / 2 = pos
          · rw [if_pos pp]
            have : i = 2 * pos + 1 ∨ i = 2 * pos + 1 + 1 := by omega
            rcases this with rfl | rfl
            · exact k3
            · exact k4 il
          · rw [if_neg pp]; exact h1 i i0 il ipos pp
      · rw [hpc, if_pos rfl, if_neg (by omega)]
        have := h1 i i0 il (by omega) (by omega)
        rwa [ip] at this
  · rename_i hc
    refine ⟨hp, rfl, ?_, .refl _⟩
    obtain ⟨h1, h2⟩ := hH
    unfold Exc
    simp only [List.length_set, gt_set hp]
    refine ⟨fun i i0 il inp => ?_, fun i i0 il ip p0 => ?_⟩
    · rw [if_neg inp, if_neg (by omega)]
      exact h1 i i0 il inp (by omega)
    · omega
termination_by xs.length - pos
decreasing_by
  simp only [List.length_set]
  omega

theorem push_perm (xs : List (Int × Str)) (x : Int × Str) : (push xs x).Perm (x :: xs) := by
  unfold push
  refine (sdown_perm x 0 xs.length (xs ++ [x]) (by simp)).trans ?_
  have e : (xs ++ [x]).set xs.length x = xs ++ [x] := by simp
  rw [e]
  exact List.perm_append_singleton x xs
theorem gt_append {xs ys : List (Int × Str)} {i : Nat} (h : i < xs.length) : gt (xs ++ ys) i = gt xs i := by
  rw [gt_eq h, gt_eq (by simp; omega), List.getElem_append_left h]
theorem push_heap {xs : List (Int × Str)} (x : Int × Str) (h : Hp xs) : Hp (push xs x) := by
  unfold push
  refine sdown_heap x xs.length (xs ++ [x]) (by simp) ?_
  have e : (xs ++ [x]).set xs.length x = xs ++ [x] := by simp
  rw [e]
  refine ⟨fun i i0 il inx => ?_, fun i i0 il ip => ?_⟩
  · simp at il
    rw [gt_append (by omega), gt_append (by omega)]
    exact h i i0 (by omega)
  · simp at il; omega

theorem snoc_of_ne {xs : List (Int × Str)} (h : xs ≠ []) : ∃ ys y, xs = ys ++ [y] := ⟨xs.dropLast, xs.getLast h, (List.dropLast_concat_getLast h).symm⟩
theorem lastD_snocP (l : List (Int × Str)) (z d : Int × Str) : (l ++ [z]).getLastD d = z := by
  induction l with
  | nil => rfl
  | cons a l ih => cases l <;> simp_all [List.getLastD]
theorem popR_sup_hole {ys : List (Int × Str)} {y : Int × Str} (hy : ys ≠ []) (h : Hp (ys ++ [y])) : 0 < (ys.set 0 y).length ∧ Hole 0 (ys.set 0 y) := by
  have hl : 0 < ys.length := List.length_pos_iff.mpr hy
  refine ⟨by simpa using hl, fun i i0 il inx ipx => ?_, fun i i0 il ip p0 => absurd p0 (by omega)⟩
  simp only [List.length_set] at il
  rw [gt_set hl, gt_set hl, if_neg ipx, if_neg inx]
  have := h i i0 (by simp; omega)
  rwa [gt_append (by omega), gt_append (by omega)] at this
theorem pop_perm {xs : List (Int × Str)} (hne : xs ≠ []) (h : Hp xs) : xs.Perm (popV xs :: popR xs) := by
  obtain ⟨ys, y, rfl⟩ := snoc_of_ne hne
  unfold popV popR
  rw [List.dropLast_concat, lastD_snocP]
  by_cases hy : ys = []
  · subst hy; exact .refl _
  · rw [if_neg hy, if_neg hy]
    obtain ⟨k1, k2⟩ := popR_sup_hole hy h
    have hl : 0 < ys.length := List.length_pos_iff.mpr hy
    obtain ⟨a1, a2, a3, a4⟩ := supL_spec 0 (ys.set 0 y) k1 k2 y
    unfold sup
    have p0 := sdown_perm y 0 (supL 0 (ys.set 0 y)).1 ((supL 0 (ys.set 0 y)).2.set (supL 0 (ys.set 0 y)).1 y) (by simpa using a1)
    rw [List.set_set] at p0 a4
    have p1 := p0.trans a4
    refine .trans ?_ (p1.symm.cons _)
    cases ys with
    | nil => exact absurd rfl hy
    | cons z zs =>
      simp only [List.set_cons_zero, List.cons_append]
      exact (List.perm_append_singleton y zs).cons z
theorem popR_heap {xs : List (Int × Str)} (hne : xs ≠ []) (h : Hp xs) : Hp (popR xs) := by
  obtain ⟨ys, y, rfl⟩ := snoc_of_ne hne
  unfold popR
  rw [List.dropLast_concat, lastD_snocP]
  by_cases hy : ys = []
  · rw [if_pos hy]; intro i _ hi; simp at hi
  · rw [if_neg hy]
    obtain ⟨k1, k2⟩ := popR_sup_hole hy h
    obtain ⟨a1, a2, a3, a4⟩ := supL_spec 0 (ys.set 0 y) k1 k2 y
    unfold sup
    exact sdown_heap y _ _ (by simpa using a1) (by rw [List.set_set]; exact a3)
theorem heap_min {xs : List (Int × Str)} (h : Hp xs) (i : Nat) (hi : i < xs.length) : leP (gt xs 0) (gt xs i) := by
  by_cases h0 : i = 0
  · subst h0; exact leP_refl _
  · exact leP_trans (heap_min h ((i - 1) / 2) (by omega)) (h i (by omega) hi)
termination_by i
decreasing_by omega
theorem pop_min {xs : List (Int × Str)} (hne : xs ≠ []) (h : Hp xs) : ∀ y ∈ xs, leP (popV xs) y := by
  intro z hz
  obtain ⟨i, hi, rfl⟩ := List.mem_iff_getElem.mp hz
  have := heap_min h i hi
  rw [gt_eq hi] at this
  have e : popV xs = gt xs 0 := by
    obtain ⟨ys, y, rfl⟩ := snoc_of_ne hne
    unfold popV
    rw [List.dropLast_concat, lastD_snocP]
    by_cases hy : ys = []
    · subst hy; rfl
    · rw [if_neg hy]
      exact (gt_append (List.length_pos_iff.mpr hy)).symm
  rw [e]; exact this
end Mine
end

section
open PySem PySem.W PyProof.Rows PySem.Calls PySem.Spec
set_option Elab.async false
set_option maxRecDepth 100000
set_option maxHeartbeats 8000000
set_option pp.deepTerms false
set_option pp.deepTerms.threshold 4
set_option pp.maxSteps 20000
namespace Mine
theorem walk_start_B10 : True := by w_top off; trivial
local macro_rules | `(tactic| k_steps) => `(tactic| repeat' (
  (fail_if_success (with_reducible show wpAny _ _ (PySem.exec (Stmt.While _ _ _ _) _) _ _ _));
  (fail_if_success (with_reducible show wpAny _ _ (PySem.exec (Stmt.For _ _ _ _ _) _) _ _ _));
  (fail_if_success (with_reducible show wpAny _ _ (PySem.call (Value.ref _) _ _) _ _ _));
  (fail_if_success (with_reducible show wpAny _ _ (PySem.call (Value.builtin "list.append") _ _) _ _ _));
  (fail_if_success (with_reducible show wpAny _ _ (PySem.call (Value.builtin "list.pop") _ _) _ _ _));
  (fail_if_success (with_reducible show wpAny _ _ (PySem.call (Value.builtin "str.split") _ _) _ _ _));
  (fail_if_success (with_reducible show wpAny _ _ (PySem.call (Value.builtin "str.join") _ _) _ _ _));
  (fail_if_success (with_reducible show wpAny _ _ (truthy (Value.ref _)) _ _ _));
  (fail_if_success (with_reducible show wpAny _ _ (compareOp CmpOp.NotEq (Value.ref _) (Value.ref _)) _ _ _));
  (fail_if_success (with_reducible show wpAny _ _ (compareOp CmpOp.NotIn (Value.str _ _) (Value.ref _)) _ _ _));
  (fail_if_success (with_reducible show wpAny _ _ (subscriptTail _ _ (Value.ref _) (Value.int _ _)) _ _ _));
  (fail_if_success (with_reducible show wpAny _ _ (setItem (Value.ref _) (Value.int _ _) _) _ _ _));
  (fail_if_success (with_reducible show Hold _));
  (first | ((with_reducible show wpAny _ _ (PySem.exec _ _) _ _ _); k_fold) | (k_unfold; (try dsimp only)) | (k_end; kc_close) | walk1 | (dsimp only; walk1) | (leave1; walk_say "STEP leave1"; (try dsimp only)) | fail "no step")))

section
variable {w : World} {p : Program} {loose : List Str} {mean : ExcName → Option Value} {mg mb : Str → Option Value}
  {dp un : Nat} {gd : Option (List Code)} {cn : Str} {cs : Scope} {a : Addr} {ccd : Value} {cl : List (Str × Addr)} {outer : List Env} {A₀ : Around} {base h₀ : Heap} {L : Addr} {m : Str → Option Value} {s : Shared} {Q E : Value → Shared → Prop}
  {news : List (Addr × Obj)}



theorem ne_nil {prog : Program} {w : World} {A : Around} {E : Value → Shared → Prop} {s : Shared} {h₀ : Heap} {L l z : Addr} {n k : Nat} {news : List (Addr × Obj)} {vs : List Value} {Q : Value → Shared → Prop} (N : News h₀ L s.heap news) (hm : (l, listOf vs.toArray n) ∈ news) (hz : (z, listOf ([] : List Value).toArray k) ∈ news) (hu : A.units < cLine) (h : Q (.bool (!vs.isEmpty)) s) :
    wpAny (model prog w) A (compareOp .NotEq (.ref l) (.ref z)) Q E s := by
  have h1 : s.heap.IsList l vs.toArray := PySem.IsL.isList (N _ hm).1
  have h2 : s.heap.IsList z ([] : List Value).toArray := PySem.IsL.isList (N _ hz).1
  cases vs with
  | nil => exact PySem.SeqAt.RcNeAt.lists (e := fun _ => true) h1 h2 rfl hu (fun j hj => by simp at hj) prog w E Q h
  | cons v vs => exact PySem.SeqAt.RcNeAt.lists_lengths h1 h2 (by simp) hu prog w E Q h

theorem All2.imp {α β : Type} {R S : α → β → Prop} (h : ∀ a b, R a b → S a b) {l : List α} {r : List β} (x : All2 R l r) : All2 S l r := by
  induction x with
  | nil => exact .nil
  | cons h1 _ ih => exact .cons (h _ _ h1) ih
theorem ItemAt.up {l l' : List (Addr × Obj)} (hs : ∀ q ∈ l, q ∈ l') {v : Value} {x : Int × Str} (h : ItemAt l v x) : ItemAt l' v x := by
  obtain ⟨a, t, u, n, e, hm⟩ := h
  exact ⟨a, t, u, n, e, hs _ hm⟩
theorem News.rot3 {h₀ h : Heap} {L : Addr} {a b c : Addr × Obj} {l : List (Addr × Obj)} (N : News h₀ L h (a :: b :: c :: l)) : News h₀ L h (c :: b :: a :: l) := by
  intro q hq
  refine N q ?_
  simp only [List.mem_cons] at hq ⊢
  rcases hq with hq | hq | hq | hq
  · exact .inr (.inr (.inl hq))
  · exact .inr (.inl hq)
  · exact .inl hq
  · exact .inr (.inr (.inr hq))
theorem News.four {h₀ h : Heap} {L : Addr} {a b c d : Addr × Obj} {l : List (Addr × Obj)} (N : News h₀ L h (a :: b :: c :: d :: l)) : News h₀ L h (d :: c :: b :: a :: l) := by
  intro q hq
  refine N q ?_
  simp only [List.mem_cons] at hq ⊢
  rcases hq with h | h | h | h | h
  · exact .inr (.inr (.inr (.inl h)))
  · exact .inr (.inr (.inl h))
  · exact .inr (.inl h)
  · exact .inl h
  · exact .inr (.inr (.inr (.inr h)))
def MoveAt (own : List (Addr × Obj)) (v : Value) (x : Str × Int) : Prop := ∃ a t u n, v = .ref a ∧ (a, ({ cls := .type "tuple", data := .seq #[.str x.1 t, .int x.2 u] n } : Obj)) ∈ own

/-- where a move leads, as the client hears it -/
def normS (x : Str) : Str := (splitS x).1 ++ Txt.join (Str.ofString "/") (normParts x)
def thereS (bs : List Str) (here word : Str) : Str :=
  if (Txt.slice (replyS (normS (joinS here word)) bs) none (some 3) != Str.ofString "257") = true then here else pS (replyS (normS (joinS here word)) bs) 5 (Str.ofString "")
/-- one move of the search -/
def stpS (bs : List Str) (done : List Str) (price : Int) (here : Str) (xs : List (Int × Str)) (mv : Str × Int) : List (Int × Str) :=
  if done.any (· == thereS bs here mv.1) then xs else push xs (price + mv.2, thereS bs here mv.1)

/-- what the walk of one move asks of its texts -/
structure GoodMove (bs : List Str) (here word : Str) : Prop where
  l1 : here.length < 500
  l2 : word.length < 500
  n1 : (joinS here word).length < 1000
  n2 : (splitS (joinS here word)).2.length < 1000
  n3 : (splitS (joinS here word)).1.length < 1000
  n4 : ((joinS here word).length : Int) ≠ 0
  n5 : ((splitS (joinS here word)).1.length : Int) ≠ 0
  n6 : ∀ c ∈ Txt.split (splitS (joinS here word)).2 (Str.ofString "/"), c.length < 1000
  n7 : ((normParts (joinS here word)).map (·.length)).sum + (normParts (joinS here word)).length * (Str.ofString "/").length ≤ 16777216
  n8 : (Txt.join (Str.ofString "/") (normParts (joinS here word))).length < 1000
  n9 : (Txt.split (splitS (joinS here word)).2 (Str.ofString "/")).length < 1000
  r1 : (normS (joinS here word)).length < 1000
  r2 : (Txt.replace (normS (joinS here word)) (Str.ofString "\"") (Str.ofString "\"\"")).length < 1000
  p1 : (replyS (normS (joinS here word)) bs).length < 1000
  p2 : 5 ≤ (replyS (normS (joinS here word)) bs).length
  p3 : (Txt.slice (replyS (normS (joinS here word)) bs) none (some 3) != Str.ofString "257") = false → (Txt.slice (replyS (normS (joinS here word)) bs) (some 3) (some 5) != Str.ofString " \"") = false
theorem kts_none_back {fs : List Addr} {g g1 g2 : Heap} (T1 : KtsTurn fs g g1) (T2 : KtsTurn fs g g2) {b : Addr} (e : g1.get? b = none) : g2.get? b = none := by
  refine T2.none_ b ?_
  cases q : g.get? b with
  | none => rfl
  | some o =>
    obtain ⟨sl, hs⟩ := T1.up q
    rw [e] at hs; cases hs

inductive SePost (Gd : Heap → Prop) (L' : Addr) (gs : Array GenState) (dr : Drawn) (os : OsState) (tlA : Addr) (news : List (Addr × Obj)) (Inv : List (Int × Str) → List Str → List (Int × Str) → Prop) (f : Flow) (s2 : Shared) : Prop where
  | mk : f = .next → ∀ (g1 h2 : Heap) (tk2 : Tok) (m2 : Str → Option Value) (tvs : List Value) (tn : Nat) (told : List (Int × Str)) (done : List Str) (own : List (Addr × Obj)), s2 = ⟨h2, gs, dr, tk2, os⟩ → Gd g1 → Fr g1 L' h2 m2 → News g1 L' h2 ((tlA, listOf tvs.toArray tn) :: own) →
      Has m2 [(Str.ofString "told", .ref tlA)] → All2 (ItemAt own) tvs told → Inv [] done told → (∀ q ∈ news, q ∈ own) → SePost Gd L' gs dr os tlA news Inv f s2
inductive SeInv (Gd : Heap → Prop) (L' : Addr) (gs : Array GenState) (dr : Drawn) (os : OsState) (hp dnA tlA mv bd : Addr) (news : List (Addr × Obj)) (Inv : List (Int × Str) → List Str → List (Int × Str) → Prop) (meas : List (Int × Str) → List Str → Nat) (nn : Nat) (s1 : Shared) : Prop where
  | mk (g1 h1 : Heap) (tk1 : Tok) (m1 : Str → Option Value) : s1 = ⟨h1, gs, dr, tk1, os⟩ → Gd g1 → Fr g1 L' h1 m1 → ∀ (hvs : List Value) (hn : Nat) (xs : List (Int × Str)) (dvs : List Value) (dn : Nat) (done : List Str) (tvs : List Value) (tn : Nat) (told : List (Int × Str)) (own : List (Addr × Obj)),
      News g1 L' h1 ((hp, listOf hvs.toArray hn) :: (dnA, listOf dvs.toArray dn) :: (tlA, listOf tvs.toArray tn) :: own) →
      Has m1 [(Str.ofString "heap", .ref hp), (Str.ofString "done", .ref dnA), (Str.ofString "told", .ref tlA), (Str.ofString "moves", .ref mv), (Str.ofString "barred", .ref bd)] →
      All2 (ItemAt own) hvs xs → All2 IsS dvs done → All2 (ItemAt own) tvs told → (∀ q ∈ news, q ∈ own) → (∀ q ∈ own, q.1 ≠ hp ∧ q.1 ≠ dnA ∧ q.1 ≠ tlA) → Inv xs done told → nn = meas xs done → SeInv Gd L' gs dr os hp dnA tlA mv bd news Inv meas nn s1
inductive SeFor (hp dnA tlA mv bd : Addr) (price : Int) (tp : Tok) (here : Str) (th : Tok) (dvs1 : List Value) (dn1 : Nat) (tvs1 : List Value) (tn1 : Nat) (own1 : List (Addr × Obj)) (moves : List (Str × Int)) (bs done1 : List Str) (x0 : List (Int × Str)) (i : Nat) (m1 : Str → Option Value) (news1 : List (Addr × Obj)) : Prop where
  | mk (hvs2 : List Value) (hn2 : Nat) (xs2 : List (Int × Str)) (own2 : List (Addr × Obj)) : news1 = (hp, listOf hvs2.toArray hn2) :: (dnA, listOf dvs1.toArray dn1) :: (tlA, listOf tvs1.toArray tn1) :: own2 →
      Has m1 [(Str.ofString "heap", .ref hp), (Str.ofString "done", .ref dnA), (Str.ofString "told", .ref tlA), (Str.ofString "moves", .ref mv), (Str.ofString "barred", .ref bd), (Str.ofString "price", .int price tp), (Str.ofString "here", .str here th)] →
      All2 (ItemAt own2) hvs2 xs2 → (∀ q ∈ own1, q ∈ own2) → (∀ q ∈ own2, q.1 ≠ hp ∧ q.1 ≠ dnA ∧ q.1 ≠ tlA) → xs2.length ≤ x0.length + i → xs2 = (moves.take i).foldl (stpS bs done1 price here) x0 → SeFor hp dnA tlA mv bd price tp here th dvs1 dn1 tvs1 tn1 own1 moves bs done1 x0 i m1 news1
theorem search_walk {mv bd : Addr} {mvs bvs : List Value} {mn bn : Nat} {moves : List (Str × Int)} {bs : List Str}
    (Inv : List (Int × Str) → List Str → List (Int × Str) → Prop)
    (B : Below A₀ h₀ [] h₀) (F : Fr h₀ L s.heap m) (X : (hd.heap_39 w.params).In h₀) (N : News h₀ L s.heap news) (T : Top p loose mean mg mb h₀) (hk : cs.kind = .function)
    (hr : dp + 60 < recursionLimit) (hu : un + 480 < cLine)
    (hmv : (mv, listOf mvs.toArray mn) ∈ news) (hmoves : All2 (MoveAt news) mvs moves) (hbd : (bd, listOf bvs.toArray bn) ∈ news) (hbs : All2 IsS bvs bs)
    (meas : List (Int × Str) → List Str → Nat) (NM : List Str)
    (i0 : Inv (push [] (0, Str.ofString "/")) [] [])
    (isz : ∀ xs done told, Inv xs done told → xs.length < 100 ∧ done.length < 100 ∧ told.length < 100 ∧ (popR xs).length < 100 ∧ (xs ≠ [] → (popV xs).2 ∈ NM))
    (hml : moves.length < 100) (hgood : ∀ here ∈ NM, ∀ mv ∈ moves, GoodMove bs here mv.1)
    (i1 : ∀ xs done told, Inv xs done told → xs ≠ [] → done.any (· == (popV xs).2) = true → Inv (popR xs) done told ∧ meas (popR xs) done < meas xs done)
    (i2 : ∀ xs done told, Inv xs done told → xs ≠ [] → done.any (· == (popV xs).2) = false →
      Inv (moves.foldl (stpS bs (done ++ [(popV xs).2]) (popV xs).1 (popV xs).2) (popR xs)) (done ++ [(popV xs).2]) (told ++ [popV xs]) ∧ meas (moves.foldl (stpS bs (done ++ [(popV xs).2]) (popV xs).1 (popV xs).2) (popR xs)) (done ++ [(popV xs).2]) < meas xs done)
    (ret : ∀ tl tvs told done tn own h' tk', Inv [] done told → All2 (ItemAt own) tvs told → (∀ q ∈ news, q ∈ own) → Fr h₀ L h' m → News h₀ L h' ((tl, listOf tvs.toArray tn) :: own) → Q (.ref tl) { s with heap := h', toks := tk' }) :
    wpAny (model Challenge.rw_pd0167_01.row.prog w) (ktrTop dp un gd cn cs L a ccd cl []) (call (.ref 203) [.ref mv, .ref bd]) Q E s := by
  revert X; k_fill; intro X
  refine wpAny_call ?_
  k_dflt (refine' enterG ?k1 ?k2 ?k3 ?k4 ?k5 ?kA ?kF ?kK ?k6 ?k7 ?k8 ?k9 ?kB ?_ ?c2 ?c3 ?c4 ?c5; (case kA => exact rfl); (case kF => exact rfl); (case kK => assumption); (case k1 => assumption); (case k2 => k_asm); (case k3 => k_asm); (case k4 => k_asm); (case k5 => k_asm); (case k6 => k_is); (case k7 => k_is); (case k8 => ktr_room); (case k9 => exact BindsTo.of_eq rfl); (case c5 => decide); (case kB => exact locs rfl); (case c2 => exact rfl); (case c3 => exact rfl); (case c4 => exact rfl); k_whole; intro g' L' h' F' N' B' X' T' D'; (try dsimp only); (try k_lift B'); (try k_fold))
  have G0 : Gnd (ktrTop dp un gd cn cs L a ccd cl []) h₀ [envX cn cs L a ccd cl] (hd.heap_39 w.params) p loose mean mg mb g' g' := ⟨KtsTurn.refl, B', X', T', D'⟩
  have hnone : ∀ g1 b, Gnd (ktrTop dp un gd cn cs L a ccd cl []) h₀ [envX cn cs L a ccd cl] (hd.heap_39 w.params) p loose mean mg mb g' g1 → g'.get? b = none → g1.get? b = none := fun g1 b x => x.T.none_ b
  k_steps
  rename_i hp h1 l1 h2 D3 h3 F3 N3 l3
  k_dflt (refine push_walk (xs := []) (x := (0, Str.ofString "/")) (by assumption) F3 (by assumption) (News.swap N3) (by assumption) rfl (by ktr_room) (by ktr_units) ?_ (fun q hq => hq) .nil ⟨_, _, _, _, rfl, .head _⟩ (by simp) ?_)
  · intro q hq
    rcases List.mem_cons.mp hq with rfl | hq
    · exact Nat.ne_of_gt l3.1
    · exact Nat.ne_of_lt (l1 q hq)
  intro vs4 n4 h4 tk4 F4 N4 hall4
  clear F3 N3
  k_steps
  rename_i dnA h6 l6 h7 _ tlA h8 l8 h5 F5 N5
  have N5' := News.rot3 N5
  clear N5
  generalize hGd : Gnd (ktrTop dp un gd cn cs L a ccd cl []) h₀ [envX cn cs L a ccd cl] (hd.heap_39 w.params) p loose mean mg mb g' = Gd at G0 hnone
  refine wpAny_mono (Q := fun f s2 => Hold (SePost Gd L' s.gens s.drawn s.os tlA news Inv f s2)) ?loop ?after (fun _ _ h => h)
  case after =>
    rintro f s2 ⟨rfl, g1, h2, tk2, m2, tvs, tn, told, done, own, rfl, hg1, F2, N2, hm2, hall2, hInv, hown⟩
    have F2' := Fr.know F2 hm2
    rw [← hGd] at hg1
    have T1 := hg1.T
    clear F2 F5 N5'
    k_steps
    exact ret _ _ _ _ _ _ _ _ hInv hall2 hown (by assumption) (by assumption)
  case loop =>
  refine While_any (SeInv Gd L' s.gens s.drawn s.os hp dnA tlA mv bd news Inv meas)
    ⟨g', _, _, _, rfl, G0, F5, vs4, n4, _, [], 0, [], [], 0, [], _, N5', ⟨rfl, rfl, rfl, rfl, rfl, trivial⟩, hall4, .nil, .nil, fun q hq => .tail _ hq, ?_, i0, rfl⟩ ?_
  · intro q hq
    rcases List.mem_cons.mp hq with rfl | hq
    · exact ⟨Nat.ne_of_gt l3.1, Nat.ne_of_lt l6.2.1, Nat.ne_of_lt l8.2.2.1⟩
    · exact ⟨Nat.ne_of_lt (l1 q hq), Nat.ne_of_lt (allLt_mem l6.2.2 q hq), Nat.ne_of_lt (allLt_mem l8.2.2.2 q hq)⟩
  rintro nn s1 ⟨g9, h9, tk9, m1, rfl, hg9, F9, hvs, hn, xs, dvs, dn, done, tvs, tn, told, own, N9, hm1, hax, had, hat, hno, hadr, hInv, rfl⟩
  have F9' := Fr.know F9 hm1
  have hg9' := hg9
  rw [← hGd] at hg9'
  obtain ⟨T9, B9, X9, P9, D9⟩ := hg9'
  clear F9 F5 N5' B' X' T' D' G0
  (try k_lift B9)
  obtain ⟨sz1, sz2, sz3, sz4, hNM⟩ := isz _ _ _ hInv
  have ln1 := hax.length
  have ln2 := had.length
  have ln3 := hat.length
  k_steps
  rename_i z h10 F10 N10 l10
  refine ne_nil N10 (.tail _ (.head _)) (.head _) (by show un + 3 < cLine; omega) ?_
  have N10' : News g9 L' h10 ((hp, listOf hvs.toArray hn) :: (dnA, listOf dvs.toArray dn) :: (tlA, listOf tvs.toArray tn) :: own) := fun q hq => N10 q (.tail _ hq)
  clear N10
  k_steps
  · rename_i hem
    obtain rfl : hvs = [] := by simpa using hem
    obtain rfl : xs = [] := by cases hax; rfl
    exact Hold.mk ⟨by trivial, g9, _, _, _, tvs, tn, told, done, own, rfl, hg9, F10, fun q hq => N10' q (.tail _ (.tail _ hq)), ⟨rfl, trivial⟩, hat, hInv, hno⟩
  · rename_i hem
    have hxs : xs ≠ [] := by intro e; subst e; cases hax; simp at hem
    have hne : ∀ q ∈ (dnA, listOf dvs.toArray dn) :: (tlA, listOf tvs.toArray tn) :: own, q.1 ≠ hp := by
      intro q hq
      rcases List.mem_cons.mp hq with rfl | hq
      · exact Nat.ne_of_gt l6.1
      · rcases List.mem_cons.mp hq with rfl | hq
        · exact Nat.ne_of_gt l8.2.1
        · exact (hadr q hq).1
    k_dflt (refine pop_walk (own := own) (by assumption) F10 (by assumption) N10' (by assumption) rfl (by ktr_room) (by ktr_units) hne (fun q hq => .tail _ (.tail _ hq)) hax hxs (by omega) ?_)
    intro v11 hvs11 hn11 h11 tk11 F11 N11 hax11 hIv
    clear F10 N10'
    obtain ⟨a11, tp, th, np, rfl, hm11⟩ := hIv
    have hT11 : IsTup h11 a11 #[.int (popV xs).1 tp, .str (popV xs).2 th] := ⟨_, (N11 _ (.tail _ (.tail _ (.tail _ hm11)))).1, rfl, np, rfl⟩
    k_steps
    rename_i h12 h13 h14 F14 N14
    refine notIn_strs N14 (.tail _ (.head _)) had ?_
    k_steps
    · rename_i hnd
      obtain ⟨k1, k2⟩ := i1 _ _ _ hInv hxs hnd
      dsimp only [WStep]
      exact ⟨_, k2, g9, _, _, _, rfl, hg9, F14, _, _, _, _, _, _, _, _, _, own, N14, ⟨rfl, rfl, rfl, rfl, rfl, trivial⟩, hax11, had, hat, hno, hadr, k1, rfl⟩
    · rename_i hnd
      have hgd := hgood _ (hNM hxs)
      obtain ⟨k1, k2⟩ := i2 _ _ _ hInv hxs hnd
      clear i1 i2 hT11 hnd hNM hgood
      generalize hpr : (popV xs).1 = price at *
      generalize hpn : (popV xs).2 = here at *
      have hpv : popV xs = (price, here) := by rw [← hpr, ← hpn]
      rw [hpv] at k1
      refine append_head F14 (News.swap N14) ?_ (by omega) ?_
      · intro q hq
        rcases List.mem_cons.mp hq with rfl | hq
        · exact Nat.ne_of_lt l6.1
        · rcases List.mem_cons.mp hq with rfl | hq
          · exact Nat.ne_of_gt l8.1
          · exact (hadr q hq).2.1
      intro h15 F15 N15
      clear F14 N14
      k_steps
      rename_i D16 h16 F16 N16 l16
      have N16' : News g9 L' h16 ((tlA, listOf tvs.toArray tn) :: (hp, listOf hvs11.toArray hn11) :: (dnA, listOf (dvs ++ [Value.str here th]).toArray (dn + 1)) :: (D16, pairO price tp here th 0) :: own) := News.four N16
      clear N16
      refine append_head (l := tlA) (vs := tvs) (n := tn) (rest := (hp, listOf hvs11.toArray hn11) :: (dnA, listOf (dvs ++ [Value.str here th]).toArray (dn + 1)) :: (D16, pairO price tp here th 0) :: own) F16
        N16' ?_ (by omega) ?_
      · intro q hq
        simp only [List.mem_cons] at hq
        rcases hq with rfl | rfl | rfl | hq
        · exact Nat.ne_of_lt l8.2.1
        · exact Nat.ne_of_lt l8.1
        · exact Nat.ne_of_gt l16.2.2.1
        · exact (hadr q hq).2.2
      intro h17 F17 N17
      clear F16 N16'
      have N18 : News g9 L' h17 ((hp, listOf hvs11.toArray hn11) :: (dnA, listOf (dvs ++ [Value.str here th]).toArray (dn + 1)) :: (tlA, listOf (tvs ++ [Value.ref D16]).toArray (tn + 1)) :: (D16, pairO price tp here th 0) :: own) :=
        News.sub N17 (by
          intro q hq
          simp only [List.mem_cons] at hq ⊢
          rcases hq with h | h | h | h
          · exact .inr (.inl h)
          · exact .inr (.inr (.inl h))
          · exact .inl h
          · exact .inr (.inr (.inr h)))
      clear N17
      have hadr1 : ∀ q ∈ (D16, pairO price tp here th 0) :: own, q.1 ≠ hp ∧ q.1 ≠ dnA ∧ q.1 ≠ tlA := by
        intro q hq
        rcases List.mem_cons.mp hq with rfl | hq
        · exact ⟨Nat.ne_of_gt l16.2.1, Nat.ne_of_gt l16.1, Nat.ne_of_gt l16.2.2.1⟩
        · exact hadr q hq
      have hno1 : ∀ q ∈ news, q ∈ (D16, pairO price tp here th 0) :: own := fun q hq => .tail _ (hno q hq)
      have hat1 : All2 (ItemAt ((D16, pairO price tp here th 0) :: own)) (tvs ++ [Value.ref D16]) (told ++ [(price, here)]) :=
        (hat.imp fun _ _ h => h.up fun q hq => .tail _ hq).snoc ⟨_, _, _, _, rfl, .head _⟩
      have hax1 : All2 (ItemAt ((D16, pairO price tp here th 0) :: own)) hvs11 (popR xs) := hax11.imp fun _ _ h => h.up fun q hq => .tail _ hq
      have had1 : All2 IsS (dvs ++ [Value.str here th]) (done ++ [here]) := had.snoc ⟨_, rfl⟩
      generalize (D16, pairO price tp here th 0) :: own = own1 at *
      generalize hdv1 : dvs ++ [Value.str here th] = dvs1 at *
      generalize hdn1 : done ++ [here] = done1 at *
      generalize htv1 : tvs ++ [Value.ref D16] = tvs1 at *
      generalize htd1 : told ++ [(price, here)] = told1 at *
      k_steps
      refine wpAny_noRaise (for_loopG (Gd := Gd) ?_)
      k_steps
      refine iter_listG (g₀ := g9) (l := mv) (vs := mvs) (k := mn) (SeFor hp dnA tlA mv bd price tp here th dvs1 (dn + 1) tvs1 (tn + 1) own1 moves bs done1 (popR xs)) rfl hg9 (fun g b hg e => by
          rw [← hGd] at hg
          have hg9'' := hg9
          rw [← hGd] at hg9''
          exact kts_none_back hg9''.T hg.T e) F17 N18
        (.tail _ (.tail _ (.tail _ (hno1 _ hmv)))) ⟨_, _, _, _, rfl, ⟨rfl, rfl, rfl, rfl, rfl, rfl, rfl, trivial⟩, hax1, fun q hq => hq, hadr1, by omega, rfl⟩
        (by rintro i m1 news1 ⟨hvs2, hn2, xs2, own2, rfl, _, _, hsub, _⟩; exact .tail _ (.tail _ (.tail _ (hsub _ (hno1 _ hmv))))) ?_ ?_
      · rintro i v m1 news1 g19 h19 tk19 I o hv ⟨hvs2, hn2, xs2, own2, rfl, hm2, hax2, hsub, hadr2, hln2, hxs2⟩ hoff hg19 F19 N19
        have hmi : i < moves.length := by have := hmoves.length; have := (List.getElem?_eq_some_iff.mp hv).1; omega
        obtain ⟨v', hv', hMv⟩ := hmoves.get i (Str.empty, 0) hmi
        obtain rfl : v = v' := by rw [hv] at hv'; exact Option.some.inj hv'
        have hgd1 := hgd _ (by rw [List.getD_eq_getElem?_getD, List.getElem?_eq_getElem hmi]; exact List.getElem_mem _ : moves.getD i (Str.empty, 0) ∈ moves)
        have hstep : (moves.take (i + 1)).foldl (stpS bs done1 price here) (popR xs) = stpS bs done1 price here xs2 (moves.getD i (Str.empty, 0)) := by
          rw [hxs2]; exact foldl_take_succ _ _ _ _ _ hmi
        clear hgd
        generalize moves.getD i (Str.empty, 0) = mvi at *
        obtain ⟨word, more⟩ := mvi
        obtain ⟨aM, tw, tm, nM, rfl, hmM⟩ := hMv
        have F20 := Fr.know F19 hm2
        have hTM : IsTup h19 aM #[.str word tw, .int more tm] := ⟨_, (N19 _ (.tail _ (.tail _ (.tail _ (.tail _ (hsub _ (hno1 _ hmM))))))).1, rfl, nM, rfl⟩
        have hg19' := hg19
        rw [← hGd] at hg19'
        obtain ⟨T19, B19, X19, P19, D19⟩ := hg19'
        clear F19 F17 N18 B9 X9 P9 D9 T9
        (try k_lift B19)
        k_steps
        rename_i h20 h21 F21 N21 _ _
        have hgd := hgd1
        k_dflt (refine join_walk (by assumption) F21 (by assumption) N21 (by assumption) rfl (by ktr_room) (by ktr_units) hgd.l1 hgd.l2 ?_)
        intro h22 tk22 t22 F22 N22
        clear F21 N21
        have n1 := hgd.n1
        have n2 := hgd.n2
        have n3 := hgd.n3
        have n4 := hgd.n4
        have n5 := hgd.n5
        have n6 := hgd.n6
        have n7 := hgd.n7
        have n8 := hgd.n8
        have n9 := hgd.n9
        have r1 := hgd.r1
        have r2 := hgd.r2
        have p1 := hgd.p1
        have p2 := hgd.p2
        have p3 := hgd.p3
        have hth : thereS bs here word = if (Txt.slice (replyS (normS (joinS here word)) bs) none (some 3) != Str.ofString "257") = true then here else pS (replyS (normS (joinS here word)) bs) 5 (Str.ofString "") := rfl
        have hst : stpS bs done1 price here xs2 (word, more) = if done1.any (· == thereS bs here word) = true then xs2 else push xs2 (price + more, thereS bs here word) := rfl
        rw [hst] at hstep
        clear hst
        have hnS : normS (joinS here word) = (splitS (joinS here word)).1 ++ Txt.join (Str.ofString "/") (normParts (joinS here word)) := rfl
        clear hgd hgd1
        generalize joinS here word = jn at *
        k_steps
        k_dflt (refine normpath_walk (by assumption) F22 (by assumption) N22 (by assumption) rfl (by ktr_room) (by ktr_units) n1 n2 n3 n4 n5 n6 n7 n8 n9 ?_)
        intro h23 tk23 t23 F23 N23
        clear F22 N22
        rw [← hnS]
        clear hnS n1 n2 n3 n4 n5 n6 n7 n8 n9
        generalize normS jn = nrm at *
        k_steps
        k_dflt (refine reply_walk (by assumption) F23 (by assumption) N23 (by assumption) rfl (by ktr_room) (by ktr_units) r1 r2 (.tail _ (.tail _ (.tail _ (.tail _ (hsub _ (hno1 _ hbd)))))) hbs ?_)
        intro h24 tk24 t24 F24 N24
        clear F23 N23 r1 r2
        generalize replyS nrm bs = rep at *
        k_steps
        by_cases hc : (Txt.slice rep none (some 3) != Str.ofString "257") = true
        · rw [if_pos hc] at hth
          refine wpAny_call ?_
          k_dflt (refine' W.code_def ?k1 ?k2 ?k3 ?k4 ?k5 ?kA ?kF ?kK ?k6 ?k7 ?k8 ?k9 ?kB ?_ ?c2 ?c3 ?c4 ?c5; (case kA => exact rfl); (case kF => exact rfl); (case kK => exact rfl); (case k1 => k_asm); (case k2 => k_asm); (case k3 => k_asm); (case k4 => k_asm); (case k5 => k_asm); (case k6 => k_is); (case k7 => k_is); (case k8 => ktr_room); (case k9 => exact BindsTo.of_eq rfl); (case c5 => decide); (case kB => exact locs rfl); (case c2 => exact rfl); (case c3 => exact rfl); (case c4 => exact rfl); k_whole; intro g40 L40 h40 FG40 F40 N40 B40 X40 T40; (try dsimp only); (try k_lift B40); (try k_fold))
          repeat' (
            (fail_if_success (with_reducible show wpAny _ _ (compareOp CmpOp.NotIn (Value.str _ _) (Value.ref _)) _ _ _));
            (first | ((with_reducible show wpAny _ _ (PySem.exec _ _) _ _ _); k_fold) | (k_unfold; (try dsimp only)) | (k_end; kc_close) | walk1 | (dsimp only; walk1) | (leave1; walk_say "STEP leave1"; (try dsimp only)) | fail "no step"))
          rename_i fr29 ns29 le29 tk29 h28 e29 made29 h27 t27 rs30 R30 U30 h29 g30 n30 T30 Got30 K30 X30 P30 D30 _ _ _ h30 F30 N30
          have hg30 : Gd g30 := by rw [← hGd]; exact ⟨T30, K30, X30, P30, D30⟩
          rw [hth] at hstep
          clear fr29 ns29 made29 rs30 R30 U30 Got30 T30 D30 B19 X19 P19 FG40 B40 X40 T40
          (try k_lift K30)
          refine notIn_strs N30 (.tail _ (.tail _ (.head _))) had1 ?_
          k_steps
          · rename_i hnt
            rw [if_pos hnt] at hstep
            dsimp only [ForEndG]
            exact ⟨g30, _, _, _, _, rfl, hg30, F30, N30, hoff, _, _, _, own2, rfl, ⟨rfl, rfl, rfl, rfl, rfl, rfl, rfl, trivial⟩, hax2, hsub, hadr2, by omega, hstep.symm⟩
          · rename_i hnt D31 h31 F31 N31 l31
            rw [if_neg (by rw [hnt]; exact Bool.false_ne_true)] at hstep
            have hln3 := hax2.length
            obtain ⟨ta, tb, N31'⟩ : ∃ ta tb, News g30 L' h31 ((D31, pairO (price + more) ta here tb 0) :: (I, o) :: (hp, listOf hvs2.toArray hn2) :: (dnA, listOf dvs1.toArray (dn + 1)) :: (tlA, listOf tvs1.toArray (tn + 1)) :: own2) := ⟨_, _, N31⟩
            clear N31
            k_dflt (refine push_walk (n := hn2) (xs := xs2) (x := (price + more, here)) (rest := (D31, pairO (price + more) ta here tb 0) :: (I, o) :: (dnA, listOf dvs1.toArray (dn + 1)) :: (tlA, listOf tvs1.toArray (tn + 1)) :: own2) (own := (D31, pairO (price + more) ta here tb 0) :: own2) (by assumption) F31 (by assumption) (News.sub N31' ?n1) (by assumption) rfl (by ktr_room) (by ktr_units) ?n2 ?n3 (hax2.imp fun _ _ h => h.up fun q hq => .tail _ hq) ⟨_, _, _, _, rfl, .head _⟩ (by omega) ?_)
            case n1 =>
              intro q hq
              simp only [List.mem_cons] at hq ⊢
              rcases hq with h | h | h | h | h | h
              · exact .inr (.inr (.inl h))
              · exact .inl h
              · exact .inr (.inl h)
              · exact .inr (.inr (.inr (.inl h)))
              · exact .inr (.inr (.inr (.inr (.inl h))))
              · exact .inr (.inr (.inr (.inr (.inr h))))
            case n2 =>
              intro q hq
              simp only [List.mem_cons] at hq
              rcases hq with rfl | rfl | rfl | rfl | hq
              · exact Nat.ne_of_gt l31.2.1
              · exact fun e => hoff _ (.head _) e.symm
              · exact Nat.ne_of_gt l6.1
              · exact Nat.ne_of_gt l8.2.1
              · exact (hadr2 q hq).1
            case n3 =>
              intro q hq
              simp only [List.mem_cons] at hq ⊢
              rcases hq with h | h
              · exact .inl h
              · exact .inr (.inr (.inr (.inr h)))
            intro hvs32 hn32 h32 tk32 F32 N32 hax32
            clear F31 N31'
            k_steps
            dsimp only [ForEndG]
            refine ⟨g30, _, _, _, (hp, listOf hvs32.toArray hn32) :: (dnA, listOf dvs1.toArray (dn + 1)) :: (tlA, listOf tvs1.toArray (tn + 1)) :: (D31, pairO (price + more) ta here tb 0) :: own2, rfl, hg30, (by assumption), News.sub N32 ?m1, ?m2, _, _, _, (D31, pairO (price + more) ta here tb 0) :: own2, rfl, ⟨rfl, rfl, rfl, rfl, rfl, rfl, rfl, trivial⟩, hax32, fun q hq => .tail _ (hsub q hq), ?m3, ?m4, hstep.symm⟩
            case m1 =>
              intro q hq
              simp only [List.mem_cons] at hq ⊢
              rcases hq with h | h | h | h | h | h
              · exact .inr (.inr (.inl h))
              · exact .inl h
              · exact .inr (.inr (.inr (.inl h)))
              · exact .inr (.inr (.inr (.inr (.inl h))))
              · exact .inr (.inl h)
              · exact .inr (.inr (.inr (.inr (.inr h))))
            case m2 =>
              intro q hq
              simp only [List.mem_cons] at hq
              rcases hq with rfl | rfl | rfl | rfl | hq
              · exact hoff (hp, listOf hvs2.toArray hn2) (.head _)
              · exact hoff _ (.tail _ (.head _))
              · exact hoff _ (.tail _ (.tail _ (.head _)))
              · exact Nat.ne_of_gt l31.1
              · exact hoff _ (.tail _ (.tail _ (.tail _ hq)))
            case m3 =>
              intro q hq
              rcases List.mem_cons.mp hq with rfl | hq
              · exact ⟨Nat.ne_of_gt l31.2.1, Nat.ne_of_gt l31.2.2.1, Nat.ne_of_gt l31.2.2.2.1⟩
              · exact hadr2 q hq
            case m4 =>
              have e : (push xs2 (price + more, here)).length = xs2.length + 1 := by unfold push; rw [sdown_len]; simp
              rw [e]; omega
        · have hc' : (Txt.slice rep none (some 3) != Str.ofString "257") = false := by simpa using hc
          have p3' := p3 hc'
          k_dflt (refine parse_walk (by assumption) F24 (by assumption) N24 (by assumption) rfl (by ktr_room) (by ktr_units) p1 p2 hc' p3' ?_)
          intro h25 tk25 t25 F25 N25
          clear F24 N24
          rw [if_neg hc] at hth
          rw [← hth]
          generalize thereS bs here word = there at *
          k_steps
          rename_i h30 F30 N30
          have hg30 := hg19
          refine notIn_strs N30 (.tail _ (.tail _ (.head _))) had1 ?_
          k_steps
          · rename_i hnt
            rw [if_pos hnt] at hstep
            dsimp only [ForEndG]
            exact ⟨g19, _, _, _, _, rfl, hg30, F30, N30, hoff, _, _, _, own2, rfl, ⟨rfl, rfl, rfl, rfl, rfl, rfl, rfl, trivial⟩, hax2, hsub, hadr2, by omega, hstep.symm⟩
          · rename_i hnt D31 h31 F31 N31 l31
            rw [if_neg (by rw [hnt]; exact Bool.false_ne_true)] at hstep
            have hln3 := hax2.length
            obtain ⟨ta, tb, N31'⟩ : ∃ ta tb, News g19 L' h31 ((D31, pairO (price + more) ta there tb 0) :: (I, o) :: (hp, listOf hvs2.toArray hn2) :: (dnA, listOf dvs1.toArray (dn + 1)) :: (tlA, listOf tvs1.toArray (tn + 1)) :: own2) := ⟨_, _, N31⟩
            clear N31
            k_dflt (refine push_walk (n := hn2) (xs := xs2) (x := (price + more, there)) (rest := (D31, pairO (price + more) ta there tb 0) :: (I, o) :: (dnA, listOf dvs1.toArray (dn + 1)) :: (tlA, listOf tvs1.toArray (tn + 1)) :: own2) (own := (D31, pairO (price + more) ta there tb 0) :: own2) (by assumption) F31 (by assumption) (News.sub N31' ?n1b) (by assumption) rfl (by ktr_room) (by ktr_units) ?n2b ?n3b (hax2.imp fun _ _ h => h.up fun q hq => .tail _ hq) ⟨_, _, _, _, rfl, .head _⟩ (by omega) ?_)
            case n1b =>
              intro q hq
              simp only [List.mem_cons] at hq ⊢
              rcases hq with h | h | h | h | h | h
              · exact .inr (.inr (.inl h))
              · exact .inl h
              · exact .inr (.inl h)
              · exact .inr (.inr (.inr (.inl h)))
              · exact .inr (.inr (.inr (.inr (.inl h))))
              · exact .inr (.inr (.inr (.inr (.inr h))))
            case n2b =>
              intro q hq
              simp only [List.mem_cons] at hq
              rcases hq with rfl | rfl | rfl | rfl | hq
              · exact Nat.ne_of_gt l31.2.1
              · exact fun e => hoff _ (.head _) e.symm
              · exact Nat.ne_of_gt l6.1
              · exact Nat.ne_of_gt l8.2.1
              · exact (hadr2 q hq).1
            case n3b =>
              intro q hq
              simp only [List.mem_cons] at hq ⊢
              rcases hq with h | h
              · exact .inl h
              · exact .inr (.inr (.inr (.inr h)))
            intro hvs32 hn32 h32 tk32 F32 N32 hax32
            clear F31 N31'
            k_steps
            dsimp only [ForEndG]
            refine ⟨g19, _, _, _, (hp, listOf hvs32.toArray hn32) :: (dnA, listOf dvs1.toArray (dn + 1)) :: (tlA, listOf tvs1.toArray (tn + 1)) :: (D31, pairO (price + more) ta there tb 0) :: own2, rfl, hg30, (by assumption), News.sub N32 ?m1b, ?m2b, _, _, _, (D31, pairO (price + more) ta there tb 0) :: own2, rfl, ⟨rfl, rfl, rfl, rfl, rfl, rfl, rfl, trivial⟩, hax32, fun q hq => .tail _ (hsub q hq), ?m3b, ?m4b, hstep.symm⟩
            case m1b =>
              intro q hq
              simp only [List.mem_cons] at hq ⊢
              rcases hq with h | h | h | h | h | h
              · exact .inr (.inr (.inl h))
              · exact .inl h
              · exact .inr (.inr (.inr (.inl h)))
              · exact .inr (.inr (.inr (.inr (.inl h))))
              · exact .inr (.inl h)
              · exact .inr (.inr (.inr (.inr (.inr h))))
            case m2b =>
              intro q hq
              simp only [List.mem_cons] at hq
              rcases hq with rfl | rfl | rfl | rfl | hq
              · exact hoff (hp, listOf hvs2.toArray hn2) (.head _)
              · exact hoff _ (.tail _ (.head _))
              · exact hoff _ (.tail _ (.tail _ (.head _)))
              · exact Nat.ne_of_gt l31.1
              · exact hoff _ (.tail _ (.tail _ (.tail _ hq)))
            case m3b =>
              intro q hq
              rcases List.mem_cons.mp hq with rfl | hq
              · exact ⟨Nat.ne_of_gt l31.2.1, Nat.ne_of_gt l31.2.2.1, Nat.ne_of_gt l31.2.2.2.1⟩
              · exact hadr2 q hq
            case m4b =>
              have e : (push xs2 (price + more, there)).length = xs2.length + 1 := by unfold push; rw [sdown_len]; simp
              rw [e]; omega
      · intro m1 news1 g33 h33 tk33 ⟨hvs2, hn2, xs2, own2, hnw, hm2, hax2, hsub, hadr2, hln2, hxs2⟩ hg33 F33 N33
        subst hnw
        rw [hmoves.length, List.take_length] at hxs2
        subst hxs2
        have F33' := Fr.know F33 hm2
        clear F33 F17 N18
        k_steps
        dsimp only [WStep]
        exact ⟨_, k2, g33, _, _, _, rfl, hg33, F33', hvs2, hn2, _, dvs1, dn + 1, done1, tvs1, tn + 1, told1, own2, N33, ⟨rfl, rfl, rfl, rfl, rfl, trivial⟩, hax2, had1, hat1.imp fun _ _ h => h.up hsub, fun q hq => hsub _ (hno1 q hq), hadr2, k1, rfl⟩
end
end Mine
end

section
open PySem PySem.W PyProof.Rows PySem.Calls PySem.Spec
set_option Elab.async false
set_option maxRecDepth 100000
set_option maxHeartbeats 8000000
set_option pp.deepTerms false
set_option pp.deepTerms.threshold 4
set_option pp.maxSteps 20000
namespace Mine
theorem walk_start_B11 : True := by w_top off; trivial
local macro_rules | `(tactic| k_steps) => `(tactic| repeat' (
  (fail_if_success (with_reducible show wpAny _ _ (PySem.exec (Stmt.While _ _ _ _) _) _ _ _));
  (fail_if_success (with_reducible show wpAny _ _ (PySem.exec (Stmt.For _ _ _ _ _) _) _ _ _));
  (fail_if_success (with_reducible show wpAny _ _ (PySem.call (Value.ref _) _ _) _ _ _));
  (fail_if_success (with_reducible show wpAny _ _ (PySem.call (Value.builtin "list.append") _ _) _ _ _));
  (fail_if_success (with_reducible show wpAny _ _ (PySem.call (Value.builtin "list.pop") _ _) _ _ _));
  (fail_if_success (with_reducible show wpAny _ _ (PySem.call (Value.builtin "str.split") _ _) _ _ _));
  (fail_if_success (with_reducible show wpAny _ _ (PySem.call (Value.builtin "str.join") _ _) _ _ _));
  (fail_if_success (with_reducible show wpAny _ _ (binaryOp PySem.Operator.Add (Value.ref _) (Value.ref _)) _ _ _));
  (fail_if_success (with_reducible show wpAny _ _ (truthy (Value.ref _)) _ _ _));
  (fail_if_success (with_reducible show wpAny _ _ (subscriptTail _ _ (Value.ref _) (Value.int _ _)) _ _ _));
  (fail_if_success (with_reducible show wpAny _ _ (setItem (Value.ref _) (Value.int _ _) _) _ _ _));
  (fail_if_success (with_reducible show Hold _));
  (first | ((with_reducible show wpAny _ _ (PySem.exec _ _) _ _ _); k_fold) | (k_unfold; (try dsimp only)) | (k_end; kc_close) | walk1 | (dsimp only; walk1) | (leave1; walk_say "STEP leave1"; (try dsimp only)) | fail "no step")))

section
variable {w : World} {p : Program} {loose : List Str} {mean : ExcName → Option Value} {mg mb : Str → Option Value}
  {dp un : Nat} {gd : Option (List Code)} {cn : Str} {cs : Scope} {a : Addr} {ccd : Value} {cl : List (Str × Addr)} {outer : List Env} {A₀ : Around} {base h₀ : Heap} {L : Addr} {m : Str → Option Value} {s : Shared} {Q E : Value → Shared → Prop}
  {news : List (Addr × Obj)}

/-- one part of a word, as the law takes it -/
def goStep (ns : List Str) (c : Str) : List Str :=
  if (c == Str.ofString "..") = true then ns.dropLast
  else if (c != Str.ofString "") = true then (if (c != Str.ofString ".") = true then ns ++ [c] else ns)
  else ns
def goS (ns : List Str) (word : Str) : List Str := (Txt.split word (Str.ofString "/")).foldl goStep (if (Txt.item word 0 == Str.ofString "/") = true then [] else ns)

theorem All2.dropLast {α β : Type} {R : α → β → Prop} {l : List α} {r : List β} (h : All2 R l r) : All2 R l.dropLast r.dropLast := by
  induction h with
  | nil => exact .nil
  | cons h1 h2 ih =>
    cases h2 with
    | nil => exact .nil
    | cons h3 h4 => exact .cons h1 ih
theorem slice_init (vs : List Value) : slicePick vs.toArray none (some (-1)) none = vs.dropLast.toArray := by
  unfold slicePick
  congr 1
  have e : sliceRange (sliceBounds none (some (-1)) none vs.toArray.size).1 (sliceBounds none (some (-1)) none vs.toArray.size).2.1 (sliceBounds none (some (-1)) none vs.toArray.size).2.2 = (List.range (vs.length - 1)).map (fun k => 0 + k) := by
    have h1 : (sliceBounds none (some (-1)) none vs.toArray.size).1 = 0 := by simp [sliceBounds]
    have h2 : (sliceBounds none (some (-1)) none vs.toArray.size).2.2 = 1 := by simp [sliceBounds]
    have h3 : (sliceBounds none (some (-1)) none vs.toArray.size).2.1 = ((vs.length - 1 : Nat) : Int) := by
      simp [sliceBounds]; omega
    rw [h1, h2, h3]
    unfold sliceRange
    rw [if_pos (by decide)]
    dsimp only
    have e1 : (if (0 : Int) < ((vs.length - 1 : Nat) : Int) then (((vs.length - 1 : Nat) : Int) - 0 + 1 - 1) / 1 else 0).toNat = vs.length - 1 := by
      split <;> omega
    rw [e1]
    apply List.map_congr_left
    intro k _
    omega
  rw [e]
  have := PySem.StrLaws.picks vs (vs.length - 1) 0 (by omega)
  rw [List.drop_zero] at this
  rw [List.dropLast_eq_take, ← this]
  simp

/-- a ledger that has grown by new objects -/
def Grown (news news1 : List (Addr × Obj)) : Prop := ∃ ext, news1 = ext ++ news ∧ ∀ q ∈ ext, ∀ r ∈ news, r.1 < q.1
theorem Grown.refl (news : List (Addr × Obj)) : Grown news news := ⟨[], rfl, fun _ h => nomatch h⟩
theorem Grown.cons {news news1 : List (Addr × Obj)} {q : Addr × Obj} (h : Grown news news1) (hq : ∀ r ∈ news, r.1 < q.1) : Grown news (q :: news1) := by
  obtain ⟨ext, rfl, he⟩ := h
  refine ⟨q :: ext, rfl, fun x hx => ?_⟩
  rcases List.mem_cons.mp hx with rfl | hx
  · exact hq
  · exact he x hx
theorem Grown.sub {news news1 : List (Addr × Obj)} (h : Grown news news1) : ∀ q ∈ news, q ∈ news1 := by
  obtain ⟨ext, rfl, _⟩ := h
  exact fun q hq => List.mem_append_right _ hq

inductive GoInv (news : List (Addr × Obj)) (dl : Addr × Obj) (parts ns0 : List Str) (i : Nat) (m1 : Str → Option Value) (news1 : List (Addr × Obj)) : Prop where
  | mk (ax : Addr) (vs : List Value) (n : Nat) (ns1 : List Str) : Has m1 [(Str.ofString "names", .ref ax)] → (ax, listOf vs.toArray n) ∈ news1 → All2 IsS vs ns1 → Grown news news1 → dl ∈ news1 → ns1.length ≤ 100 + i → ns1 = (parts.take i).foldl goStep ns0 → GoInv news dl parts ns0 i m1 news1
theorem go_walk {x : Str} {t : Tok} {nl : Addr} {nvs : List Value} {nn : Nat} {ns : List Str}
    (B : Below A₀ base outer h₀) (F : Fr h₀ L s.heap m) (X : (hd.heap_39 w.params).In h₀) (N : News h₀ L s.heap news) (T : Top p loose mean mg mb h₀) (hk : cs.kind = .function)
    (hr : dp + 10 < recursionLimit) (hu : un + 80 < cLine) (hx : x.length < 1000) (hx0 : 0 < x.length) (hnl : (nl, listOf nvs.toArray nn) ∈ news) (hns : All2 IsS nvs ns) (hnsl : ns.length < 100) (hpl : (Txt.split x (Str.ofString "/")).length < 100)
    (hpc : ∀ c ∈ Txt.split x (Str.ofString "/"), c.length < 1000)
    (ret : ∀ D vs' n' own h' tk', Grown news own → (D, listOf vs'.toArray n') ∈ own → All2 IsS vs' (goS ns x) → Fr h₀ L h' m → News h₀ L h' own → Q (.ref D) { s with heap := h', toks := tk' }) :
    wpAny (model Challenge.rw_pd0167_01.row.prog w) (ktrTop dp un gd cn cs L a ccd cl outer) (call (.ref 210) [.ref nl, .str x t]) Q E s := by
  revert X; k_fill; intro X
  refine wpAny_call ?_
  k_dflt cell_enter
  rename_i g' L' h' FG' F' N' B' X' T'
  k_steps
  · rename_i hq _ a0 h4 l4' h5 F5 N5
    have hns0 : All2 IsS ([] : List Value) ([] : List Str) := .nil
    have hm0 : (a0, listOf ([] : List Value).toArray 0) ∈ (a0, listOf ([] : List Value).toArray 0) :: news := .head _
    have hgo : goS ns x = (Txt.split x (Str.ofString "/")).foldl goStep [] := by unfold goS; rw [if_pos hq]
    have hsub0 : Grown news ((a0, listOf ([] : List Value).toArray 0) :: news) := (Grown.refl news).cons l4'
    have hl0 : ([] : List Str).length < 100 := by decide
    have N5' : News g' L' h5 ((a0, listOf ([] : List Value).toArray 0) :: news) := N5
    clear N5
    rw [hgo] at ret
    refine wpAny_noRaise (for_loop (h₀ := g') ?_)
    k_steps
    refine KSpl.split1 (x := x) (y := Str.ofString "/") F5 N5' (by decide) ?_ (by rw [sizeLine_eq]; omega)
    intro D6 l6 h6 k6 e6 a6 F6 N6 lt6
    rw [← e6] at hpc hpl ret
    have hc6 : All2 IsS (strValues l6) (l6.map (·.1)) := all2_of_strs a6
    generalize l6.map (·.1) = parts at *
    clear F5 N5'
    k_steps
    refine iter_list (GoInv news (D6, listOf (strValues l6).toArray 0) parts ([] : List Str)) rfl F6 N6 (.head _)
      ⟨_, _, _, _, ⟨rfl, trivial⟩, .tail _ hm0, hns0, hsub0.cons (fun r hr => lt6 r (hsub0.sub r hr)), .head _, by omega, rfl⟩ (by rintro i m1 news1 ⟨ax, vs, n, ns1, _, _, _, _, hD, _⟩; exact hD) ?_ ?_
    · rintro i v m1 news1 h8 tk8 I o hv ⟨ax, vs, n, ns1, hm1, hax, hall, hsub, hD6, hln, hns1⟩ hoff F8 N8
      have hi : i < parts.length := by have := hc6.length; have := (List.getElem?_eq_some_iff.mp hv).1; omega
      obtain ⟨v', hv', tc, hIc⟩ := hc6.get i Str.empty hi
      obtain rfl : v = v' := by rw [hv] at hv'; exact Option.some.inj hv'
      subst hIc
      have hstep : (parts.take (i + 1)).foldl goStep ([] : List Str) = goStep ns1 (parts.getD i Str.empty) := by
        rw [hns1]; exact foldl_take_succ _ _ _ _ _ hi
      have hcl : (parts.getD i Str.empty).length < 1000 := hpc _ (by rw [List.getD_eq_getElem?_getD, List.getElem?_eq_getElem hi]; exact List.getElem_mem _)
      generalize (parts.getD i Str.empty) = c at *
      have hlen2 := hall.length
      have F9 := Fr.know F8 hm1
      clear F8 F6 N6
      k_steps
      · rename_i h9 F9' N9' _ _ _ hc1
        have hIlt : I < h9.objs.size := Heap.lt_size (N9' (I, o) (.head _)).1
        have hall9 : ∀ q ∈ news1, q.1 < h9.objs.size := fun q hq => Heap.lt_size (N9' q (.tail _ hq)).1
        refine slice_list3 F9' N9' (PySem.IsL.isList (N9' _ (.tail _ hax)).1) .none (.int _ _) .none (by decide) ?_ (hsz := by rw [sizeLine_eq]; simp; omega)
        intro h10 F10 N10
        rw [slice_init] at N10
        clear F9' N9'
        k_steps
        dsimp only [ForEnd]
        refine ⟨_, _, _, (h9.objs.size + 1, listOf vs.dropLast.toArray 0) :: news1, rfl, (by assumption), News.swap (by assumption), ?_, _, _, _, _, ⟨rfl, trivial⟩, .head _, hall.dropLast, hsub.cons (fun r hr => Nat.lt_succ_of_lt (hall9 r (hsub.sub r hr))), .tail _ hD6, ?_, ?_⟩
        · intro q hq
          rcases List.mem_cons.mp hq with rfl | hq
          · exact Nat.ne_of_gt (Nat.lt_succ_of_lt hIlt)
          · exact hoff q hq
        · rw [List.length_dropLast]; omega
        · rw [hstep, goStep, if_pos hc1]
      · rename_i h9 _ _ _ hc1 _ _ _ hc2 hc3 D9 h10 F10 N10 l10
        have hlt10 : ∀ q ∈ (I, o) :: news1, q.1 < h10.objs.size := fun q hq => Heap.lt_size (N10 q (.tail _ hq)).1
        refine add_lists (vs := vs) (ws := [Value.str c tc]) F10 N10 (PySem.IsL.isList (N10 _ (.tail _ (.tail _ hax))).1) (PySem.IsL.isList (N10 _ (.head _)).1) ?_ (by rw [sizeLine_eq]; simp; omega)
        intro h11 F11 N11
        clear F10 N10
        have N11' : News g' L' h11 ((h10.objs.size, listOf (vs ++ [Value.str c tc]).toArray 0) :: (I, o) :: news1) := News.sub N11 (by
          intro q hq
          simp only [List.mem_cons] at hq ⊢
          rcases hq with h | h | h
          · exact .inl h
          · exact .inr (.inr (.inl h))
          · exact .inr (.inr (.inr h)))
        clear N11
        k_steps
        dsimp only [ForEnd]
        refine ⟨_, _, _, (h10.objs.size, listOf (vs ++ [Value.str c tc]).toArray 0) :: news1, rfl, (by assumption), News.swap (by assumption), ?_, _, _, _, _, ⟨rfl, trivial⟩, .head _, hall.snoc ⟨tc, rfl⟩, hsub.cons (fun r hr => hlt10 r (.tail _ (hsub.sub r hr))), .tail _ hD6, ?_, ?_⟩
        · intro q hq
          rcases List.mem_cons.mp hq with rfl | hq
          · exact Nat.ne_of_gt (hlt10 _ (.head _))
          · exact hoff q hq
        · rw [List.length_append, List.length_singleton]; omega
        · rw [hstep, goStep, if_neg (by rw [hc1]; exact Bool.false_ne_true), if_pos hc2, if_pos hc3]
      · rename_i h9 F9' N9' _ _ _ hc1 _ hc2 hc3
        dsimp only [ForEnd]
        exact ⟨_, _, _, news1, rfl, F9', N9', hoff, _, _, _, _, ⟨rfl, trivial⟩, hax, hall, hsub, hD6, by omega, by rw [hstep, goStep, if_neg (by rw [hc1]; exact Bool.false_ne_true), if_pos hc2, if_neg (by rw [hc3]; exact Bool.false_ne_true)]⟩
      · rename_i h9 F9' N9' _ _ _ hc1 _ hc2
        dsimp only [ForEnd]
        exact ⟨_, _, _, news1, rfl, F9', N9', hoff, _, _, _, _, ⟨rfl, trivial⟩, hax, hall, hsub, hD6, by omega, by rw [hstep, goStep, if_neg (by rw [hc1]; exact Bool.false_ne_true), if_neg (by rw [hc2]; exact Bool.false_ne_true)]⟩
    · rintro m1 news1 h8 tk8 ⟨ax, vs, n, ns1, hm1, hax, hall, hsub, hD6, hln, hns1⟩ F8 N8
      rw [hc6.length, List.take_length] at hns1
      subst hns1
      have F9 := Fr.know F8 hm1
      clear F8 F6 N6
      k_steps
      exact ret _ _ _ _ _ _ hsub hax hall (by assumption) (by assumption)
  · rename_i hq
    have hgo : goS ns x = (Txt.split x (Str.ofString "/")).foldl goStep ns := by unfold goS; rw [if_neg (by rw [hq]; exact Bool.false_ne_true)]
    have hns0 := hns
    have hm0 := hnl
    have hsub0 : Grown news news := Grown.refl news
    have hl0 := hnsl
    have N5' := N'
    have F5 := F'
    clear F' N'
    rw [hgo] at ret
    refine wpAny_noRaise (for_loop (h₀ := g') ?_)
    k_steps
    refine KSpl.split1 (x := x) (y := Str.ofString "/") F5 N5' (by decide) ?_ (by rw [sizeLine_eq]; omega)
    intro D6 l6 h6 k6 e6 a6 F6 N6 lt6
    rw [← e6] at hpc hpl ret
    have hc6 : All2 IsS (strValues l6) (l6.map (·.1)) := all2_of_strs a6
    generalize l6.map (·.1) = parts at *
    clear F5 N5'
    k_steps
    refine iter_list (GoInv news (D6, listOf (strValues l6).toArray 0) parts ns) rfl F6 N6 (.head _)
      ⟨_, _, _, _, ⟨rfl, trivial⟩, .tail _ hm0, hns0, hsub0.cons (fun r hr => lt6 r (hsub0.sub r hr)), .head _, by omega, rfl⟩ (by rintro i m1 news1 ⟨ax, vs, n, ns1, _, _, _, _, hD, _⟩; exact hD) ?_ ?_
    · rintro i v m1 news1 h8 tk8 I o hv ⟨ax, vs, n, ns1, hm1, hax, hall, hsub, hD6, hln, hns1⟩ hoff F8 N8
      have hi : i < parts.length := by have := hc6.length; have := (List.getElem?_eq_some_iff.mp hv).1; omega
      obtain ⟨v', hv', tc, hIc⟩ := hc6.get i Str.empty hi
      obtain rfl : v = v' := by rw [hv] at hv'; exact Option.some.inj hv'
      subst hIc
      have hstep : (parts.take (i + 1)).foldl goStep ns = goStep ns1 (parts.getD i Str.empty) := by
        rw [hns1]; exact foldl_take_succ _ _ _ _ _ hi
      have hcl : (parts.getD i Str.empty).length < 1000 := hpc _ (by rw [List.getD_eq_getElem?_getD, List.getElem?_eq_getElem hi]; exact List.getElem_mem _)
      generalize (parts.getD i Str.empty) = c at *
      have hlen2 := hall.length
      have F9 := Fr.know F8 hm1
      clear F8 F6 N6
      k_steps
      · rename_i h9 F9' N9' _ _ _ hc1
        have hIlt : I < h9.objs.size := Heap.lt_size (N9' (I, o) (.head _)).1
        have hall9 : ∀ q ∈ news1, q.1 < h9.objs.size := fun q hq => Heap.lt_size (N9' q (.tail _ hq)).1
        refine slice_list3 F9' N9' (PySem.IsL.isList (N9' _ (.tail _ hax)).1) .none (.int _ _) .none (by decide) ?_ (hsz := by rw [sizeLine_eq]; simp; omega)
        intro h10 F10 N10
        rw [slice_init] at N10
        clear F9' N9'
        k_steps
        dsimp only [ForEnd]
        refine ⟨_, _, _, (h9.objs.size + 1, listOf vs.dropLast.toArray 0) :: news1, rfl, (by assumption), News.swap (by assumption), ?_, _, _, _, _, ⟨rfl, trivial⟩, .head _, hall.dropLast, hsub.cons (fun r hr => Nat.lt_succ_of_lt (hall9 r (hsub.sub r hr))), .tail _ hD6, ?_, ?_⟩
        · intro q hq
          rcases List.mem_cons.mp hq with rfl | hq
          · exact Nat.ne_of_gt (Nat.lt_succ_of_lt hIlt)
          · exact hoff q hq
        · rw [List.length_dropLast]; omega
        · rw [hstep, goStep, if_pos hc1]
      · rename_i h9 _ _ _ hc1 _ _ _ hc2 hc3 D9 h10 F10 N10 l10
        have hlt10 : ∀ q ∈ (I, o) :: news1, q.1 < h10.objs.size := fun q hq => Heap.lt_size (N10 q (.tail _ hq)).1
        refine add_lists (vs := vs) (ws := [Value.str c tc]) F10 N10 (PySem.IsL.isList (N10 _ (.tail _ (.tail _ hax))).1) (PySem.IsL.isList (N10 _ (.head _)).1) ?_ (by rw [sizeLine_eq]; simp; omega)
        intro h11 F11 N11
        clear F10 N10
        have N11' : News g' L' h11 ((h10.objs.size, listOf (vs ++ [Value.str c tc]).toArray 0) :: (I, o) :: news1) := News.sub N11 (by
          intro q hq
          simp only [List.mem_cons] at hq ⊢
          rcases hq with h | h | h
          · exact .inl h
          · exact .inr (.inr (.inl h))
          · exact .inr (.inr (.inr h)))
        clear N11
        k_steps
        dsimp only [ForEnd]
        refine ⟨_, _, _, (h10.objs.size, listOf (vs ++ [Value.str c tc]).toArray 0) :: news1, rfl, (by assumption), News.swap (by assumption), ?_, _, _, _, _, ⟨rfl, trivial⟩, .head _, hall.snoc ⟨tc, rfl⟩, hsub.cons (fun r hr => hlt10 r (.tail _ (hsub.sub r hr))), .tail _ hD6, ?_, ?_⟩
        · intro q hq
          rcases List.mem_cons.mp hq with rfl | hq
          · exact Nat.ne_of_gt (hlt10 _ (.head _))
          · exact hoff q hq
        · rw [List.length_append, List.length_singleton]; omega
        · rw [hstep, goStep, if_neg (by rw [hc1]; exact Bool.false_ne_true), if_pos hc2, if_pos hc3]
      · rename_i h9 F9' N9' _ _ _ hc1 _ hc2 hc3
        dsimp only [ForEnd]
        exact ⟨_, _, _, news1, rfl, F9', N9', hoff, _, _, _, _, ⟨rfl, trivial⟩, hax, hall, hsub, hD6, by omega, by rw [hstep, goStep, if_neg (by rw [hc1]; exact Bool.false_ne_true), if_pos hc2, if_neg (by rw [hc3]; exact Bool.false_ne_true)]⟩
      · rename_i h9 F9' N9' _ _ _ hc1 _ hc2
        dsimp only [ForEnd]
        exact ⟨_, _, _, news1, rfl, F9', N9', hoff, _, _, _, _, ⟨rfl, trivial⟩, hax, hall, hsub, hD6, by omega, by rw [hstep, goStep, if_neg (by rw [hc1]; exact Bool.false_ne_true), if_neg (by rw [hc2]; exact Bool.false_ne_true)]⟩
    · rintro m1 news1 h8 tk8 ⟨ax, vs, n, ns1, hm1, hax, hall, hsub, hD6, hln, hns1⟩ F8 N8
      rw [hc6.length, List.take_length] at hns1
      subst hns1
      have F9 := Fr.know F8 hm1
      clear F8 F6 N6
      k_steps
      exact ret _ _ _ _ _ _ hsub hax hall (by assumption) (by assumption)
end
end Mine
end

section
open PySem PySem.W PyProof.Rows PySem.Calls PySem.Spec
set_option Elab.async false
namespace Mine
theorem walk_start_P2 : True := by w_top off; trivial

theorem beqS {x y : Str} : (x == y) = true ↔ x = y := beq_iff_eq
theorem any_mem {l : List Str} {x : Str} : l.any (· == x) = true ↔ x ∈ l := by
  rw [List.any_eq_true]
  constructor
  · rintro ⟨y, hy, e⟩; rw [beqS] at e; exact e ▸ hy
  · intro h; exact ⟨x, h, beqS.mpr rfl⟩
theorem any_not {l : List Str} {x : Str} : l.any (· == x) = false ↔ x ∉ l := by
  rw [← Bool.not_eq_true, any_mem]

/-- the seven names -/
def NM : List Str := [Str.ofString "/", Str.ofString "/a", Str.ofString "/b\"", Str.ofString "/a/a", Str.ofString "/a/b\"", Str.ofString "/b\"/a", Str.ofString "/b\"/b\""]
def nm (k : Nat) : Str := NM.getD k Str.empty
theorem nm_inj : ∀ i, i < 7 → ∀ j, j < 7 → nm i = nm j → i = j := by decide +kernel
theorem nm_mem : ∀ i, i < 7 → nm i ∈ NM := by decide +kernel
theorem mem_nm {x : Str} (h : x ∈ NM) : ∃ k, k < 7 ∧ x = nm k := by
  obtain ⟨i, hi, rfl⟩ := List.mem_iff_getElem.mp h
  refine ⟨i, hi, ?_⟩
  unfold nm
  rw [List.getD_eq_getElem?_getD, List.getElem?_eq_getElem hi]; rfl

theorem nodup_le {α : Type} [BEq α] [LawfulBEq α] : ∀ (l m : List α), l.Nodup → (∀ x ∈ l, x ∈ m) → l.length ≤ m.length := by
  intro l
  induction l with
  | nil => intro m _ _; exact Nat.zero_le _
  | cons a l ih =>
    intro m hn hs
    have ha := hs a (.head _)
    have hn' := List.nodup_cons.mp hn
    have := ih (m.erase a) hn'.2 (fun x hx => (List.mem_erase_of_ne (fun e : x = a => hn'.1 (e ▸ hx))).mpr (hs x (.tail _ hx)))
    rw [List.length_erase_of_mem ha] at this
    have hp : 0 < m.length := List.length_pos_of_mem ha
    simp only [List.length_cons]; omega

/-- one move of the search, for any way to hear where it leads -/
def stp (T : Str → Str → Str) (done : List Str) (price : Int) (here : Str) (xs : List (Int × Str)) (mv : Str × Int) : List (Int × Str) :=
  if done.any (· == T here mv.1) then xs else push xs (price + mv.2, T here mv.1)

theorem push_len (xs : List (Int × Str)) (x : Int × Str) : (push xs x).length = xs.length + 1 := by unfold push; rw [sdown_len]; simp
theorem push_mem {xs : List (Int × Str)} {x y : Int × Str} : y ∈ push xs x ↔ y = x ∨ y ∈ xs := by
  rw [(push_perm xs x).mem_iff, List.mem_cons]

theorem fold_spec (T : Str → Str → Str) (done : List Str) (price : Int) (here : Str) : ∀ (moves : List (Str × Int)) (xs : List (Int × Str)), Hp xs →
    Hp (moves.foldl (stp T done price here) xs) ∧ (moves.foldl (stp T done price here) xs).length ≤ xs.length + moves.length ∧
    (∀ e, e ∈ moves.foldl (stp T done price here) xs ↔ e ∈ xs ∨ ∃ mv ∈ moves, e = (price + mv.2, T here mv.1) ∧ T here mv.1 ∉ done) := by
  intro moves
  induction moves with
  | nil => intro xs h; exact ⟨h, Nat.le_refl _, fun e => ⟨.inl, fun h => h.elim id (fun ⟨_, h, _⟩ => nomatch h)⟩⟩
  | cons mv moves ih =>
    intro xs h
    rw [List.foldl_cons]
    by_cases hd : done.any (· == T here mv.1) = true
    · have e : stp T done price here xs mv = xs := by unfold stp; rw [if_pos hd]
      rw [e]
      obtain ⟨a1, a2, a3⟩ := ih xs h
      refine ⟨a1, by simp only [List.length_cons]; omega, fun e => (a3 e).trans ⟨?_, ?_⟩⟩
      · rintro (h | ⟨m, hm, h⟩)
        · exact .inl h
        · exact .inr ⟨m, .tail _ hm, h⟩
      · rintro (h | ⟨m, hm, h, hn⟩)
        · exact .inl h
        · rcases List.mem_cons.mp hm with rfl | hm
          · exact absurd (any_mem.mp hd) hn
          · exact .inr ⟨m, hm, h, hn⟩
    · have e : stp T done price here xs mv = push xs (price + mv.2, T here mv.1) := by unfold stp; rw [if_neg hd]
      rw [e]
      have hd' : T here mv.1 ∉ done := fun h => hd (any_mem.mpr h)
      obtain ⟨a1, a2, a3⟩ := ih _ (push_heap (price + mv.2, T here mv.1) h)
      rw [push_len] at a2
      refine ⟨a1, by simp only [List.length_cons]; omega, fun e => (a3 e).trans ?_⟩
      rw [push_mem]
      constructor
      · rintro ((rfl | h) | ⟨m, hm, h⟩)
        · exact .inr ⟨mv, .head _, rfl, hd'⟩
        · exact .inl h
        · exact .inr ⟨m, .tail _ hm, h⟩
      · rintro (h | ⟨m, hm, h, hn⟩)
        · exact .inl (.inr h)
        · rcases List.mem_cons.mp hm with rfl | hm
          · exact .inl (.inl h)
          · exact .inr ⟨m, hm, h, hn⟩

/-- the map of the moves, as the law's steps have it -/
structure Net (T : Str → Str → Str) (moves : List (Str × Int)) (steps : List (Nat × Nat × Int)) : Prop where
  fwd : ∀ k, k < 7 → ∀ mv ∈ moves, T (nm k) mv.1 = nm k ∨ ∃ j, j < 7 ∧ T (nm k) mv.1 = nm j ∧ (k, j, mv.2) ∈ steps
  bwd : ∀ i j c, (i, j, c) ∈ steps → i < 7 ∧ j < 7 ∧ 1 ≤ c ∧ ∃ mv ∈ moves, T (nm i) mv.1 = nm j ∧ mv.2 = c
  len : moves.length ≤ 5
  cost : ∀ mv ∈ moves, mv.2 ≤ 9

/-- least prices -/
structure Pot (steps : List (Nat × Nat × Int)) (P : Nat → Int) : Prop where
  zero : P 0 = 0
  nn : ∀ k, k < 7 → 0 ≤ P k
  fix : ∀ i j c, (i, j, c) ∈ steps → P j ≤ P i + c
  ach : ∀ j, j < 7 → P j < 1000000 → j = 0 ∨ ∃ i c, (i, j, c) ∈ steps ∧ P j = P i + c

structure Bas (xs : List (Int × Str)) (done : List Str) (told : List (Int × Str)) : Prop where
  hp : Hp xs
  nms : ∀ e ∈ xs, e.2 ∈ NM
  dn : ∀ x ∈ done, x ∈ NM
  nd : done.Nodup
  td : told.map (·.2) = done
  len : xs.length ≤ 1 + 5 * done.length
  cost : ∀ e ∈ xs, e.1 ≤ 9 * done.length

structure ForP (P : Nat → Int) (steps : List (Nat × Nat × Int)) (xs : List (Int × Str)) (done : List Str) (told : List (Int × Str)) : Prop where
  low : ∀ e ∈ xs, ∃ k, k < 7 ∧ e.2 = nm k ∧ P k ≤ e.1
  tld : ∀ t ∈ told, ∃ k, k < 7 ∧ t = (P k, nm k) ∧ P k < 1000000
  clo : ∀ i j c, (i, j, c) ∈ steps → nm i ∈ done → nm j ∈ done ∨ (P i + c, nm j) ∈ xs
  ini : nm 0 ∈ done ∨ (0, nm 0) ∈ xs
  srt : told.Pairwise (fun a b => ltP a b = true)
  fut : ∀ t ∈ told, ∀ k, k < 7 → nm k ∉ done → P k < 1000000 → ltP t (P k, nm k) = true

def SInv (steps : List (Nat × Nat × Int)) (xs : List (Int × Str)) (done : List Str) (told : List (Int × Str)) : Prop :=
  Bas xs done told ∧ ∀ P, Pot steps P → ForP P steps xs done told
def smeas (xs : List (Int × Str)) (done : List Str) : Nat := 6 * (7 - done.length) + xs.length

theorem Bas.dlen {xs : List (Int × Str)} {done : List Str} {told : List (Int × Str)} (b : Bas xs done told) : done.length ≤ 7 := nodup_le done NM b.nd b.dn

section
variable {T : Str → Str → Str} {moves : List (Str × Int)} {steps : List (Nat × Nat × Int)} {xs : List (Int × Str)} {done : List Str} {told : List (Int × Str)} {P : Nat → Int}

theorem least (hP : Pot steps P) (h : ForP P steps xs done told) (net : Net T moves steps) : ∀ n : Nat, ∀ k, k < 7 → P k < 1000000 → (P k).toNat ≤ n → nm k ∉ done → ∃ e ∈ xs, leP e (P k, nm k) := by
  intro n
  induction n with
  | zero =>
    intro k hk hlt hn hnd
    rcases hP.ach k hk hlt with rfl | ⟨i, c, hs, e⟩
    · rcases h.ini with hi | hi
      · exact absurd hi hnd
      · exact ⟨_, hi, by rw [hP.zero]; exact leP_refl _⟩
    · obtain ⟨hi7, _, hc, _⟩ := net.bwd _ _ _ hs
      have := hP.nn i hi7
      have := hP.nn k hk
      omega
  | succ n ih =>
    intro k hk hlt hn hnd
    rcases hP.ach k hk hlt with rfl | ⟨i, c, hs, e⟩
    · rcases h.ini with hi | hi
      · exact absurd hi hnd
      · exact ⟨_, hi, by rw [hP.zero]; exact leP_refl _⟩
    · obtain ⟨hi7, _, hc, _⟩ := net.bwd _ _ _ hs
      have := hP.nn i hi7
      have := hP.nn k hk
      by_cases hd : nm i ∈ done
      · rcases h.clo _ _ _ hs hd with h1 | h1
        · exact absurd h1 hnd
        · exact ⟨_, h1, by rw [e]; exact leP_refl _⟩
      · obtain ⟨x, hx, hle⟩ := ih i hi7 (by omega) (by omega) hd
        refine ⟨x, hx, leP_trans hle (leP_of_lt ?_)⟩
        rw [ltP_iff]; left; show P i < P k; omega

theorem sinv0 (steps : List (Nat × Nat × Int)) : SInv steps (push [] (0, Str.ofString "/")) [] [] := by
  have hm : ∀ e ∈ push [] (0, Str.ofString "/"), e = ((0 : Int), nm 0) := by
    intro e he
    rcases push_mem.mp he with h | h
    · exact h
    · exact nomatch h
  refine ⟨⟨push_heap _ (fun i _ hi => by simp at hi), ?_, (fun _ h => nomatch h), .nil, rfl, by rw [push_len]; simp, ?_⟩, fun P hP => ⟨?_, (fun _ h => nomatch h), (fun _ _ _ _ h => nomatch h), .inr (push_mem.mpr (.inl rfl)), .nil, (fun _ h => nomatch h)⟩⟩
  · intro e he; rw [hm e he]; exact nm_mem 0 (by decide)
  · intro e he; rw [hm e he]; exact Int.le_refl _
  · intro e he; rw [hm e he]; exact ⟨0, by decide, rfl, by rw [hP.zero]; exact Int.le_refl _⟩

theorem popR_mem (hne : xs ≠ []) (h : Hp xs) {e : Int × Str} : e ∈ xs ↔ e = popV xs ∨ e ∈ popR xs := by
  rw [(pop_perm hne h).mem_iff, List.mem_cons]
theorem popR_len (hne : xs ≠ []) (h : Hp xs) : (popR xs).length + 1 = xs.length := by
  rw [(pop_perm hne h).length_eq, List.length_cons]

theorem sinv1 (hI : SInv steps xs done told) (hne : xs ≠ []) (hd : done.any (· == (popV xs).2) = true) : SInv steps (popR xs) done told ∧ smeas (popR xs) done < smeas xs done := by
  obtain ⟨b, f⟩ := hI
  have hl := popR_len hne b.hp
  have hv := any_mem.mp hd
  have up : ∀ e ∈ popR xs, e ∈ xs := fun e he => (popR_mem hne b.hp).mpr (.inr he)
  refine ⟨⟨⟨popR_heap hne b.hp, fun e he => b.nms e (up e he), b.dn, b.nd, b.td, by have := b.len; omega, fun e he => b.cost e (up e he)⟩, fun P hP => ?_⟩, by unfold smeas; omega⟩
  have F := f P hP
  refine ⟨fun e he => F.low e (up e he), F.tld, fun i j c hs hi => ?_, ?_, F.srt, F.fut⟩
  · rcases F.clo i j c hs hi with h | h
    · exact .inl h
    · rcases (popR_mem hne b.hp).mp h with e | h
      · exact .inl (by rw [← e] at hv; exact hv)
      · exact .inr h
  · rcases F.ini with h | h
    · exact .inl h
    · rcases (popR_mem hne b.hp).mp h with e | h
      · exact .inl (by rw [← e] at hv; exact hv)
      · exact .inr h

theorem popV_is (net : Net T moves steps) (hP : Pot steps P) (b : Bas xs done told) (F : ForP P steps xs done told) (hne : xs ≠ []) (hd : (popV xs).2 ∉ done) :
    ∃ k, k < 7 ∧ popV xs = (P k, nm k) ∧ P k < 1000000 ∧ ∀ j, j < 7 → nm j ∉ done → P j < 1000000 → leP (P k, nm k) (P j, nm j) := by
  have hm : popV xs ∈ xs := (popR_mem hne b.hp).mpr (.inl rfl)
  obtain ⟨k, hk, e2, hle⟩ := F.low _ hm
  have hc := b.cost _ hm
  have hdl := b.dlen
  have hlt : P k < 1000000 := by omega
  have hmin : ∀ j, j < 7 → nm j ∉ done → P j < 1000000 → leP (popV xs) (P j, nm j) := by
    intro j hj hnd hjl
    obtain ⟨e, he, hle⟩ := least hP F net (P j).toNat j hj hjl (Nat.le_refl _) hnd
    exact leP_trans (pop_min hne b.hp e he) hle
  have h1 := leP_fst (hmin k hk (e2 ▸ hd) hlt)
  have e1 : (popV xs).1 = P k := by
    have : (popV xs).1 ≤ P k := h1
    omega
  have e : popV xs = (P k, nm k) := Prod.ext e1 e2
  exact ⟨k, hk, e, hlt, e ▸ hmin⟩

theorem sinv2 (net : Net T moves steps) (hI : SInv steps xs done told) (hne : xs ≠ []) (hd : done.any (· == (popV xs).2) = false) :
    SInv steps (moves.foldl (stp T (done ++ [(popV xs).2]) (popV xs).1 (popV xs).2) (popR xs)) (done ++ [(popV xs).2]) (told ++ [popV xs]) ∧
    smeas (moves.foldl (stp T (done ++ [(popV xs).2]) (popV xs).1 (popV xs).2) (popR xs)) (done ++ [(popV xs).2]) < smeas xs done := by
  obtain ⟨b, f⟩ := hI
  have hl := popR_len hne b.hp
  have hv := any_not.mp hd
  have up : ∀ e ∈ popR xs, e ∈ xs := fun e he => (popR_mem hne b.hp).mpr (.inr he)
  have hm : popV xs ∈ xs := (popR_mem hne b.hp).mpr (.inl rfl)
  obtain ⟨s1, s2, s3⟩ := fold_spec T (done ++ [(popV xs).2]) (popV xs).1 (popV xs).2 moves (popR xs) (popR_heap hne b.hp)
  generalize hys : moves.foldl (stp T (done ++ [(popV xs).2]) (popV xs).1 (popV xs).2) (popR xs) = ys at *
  obtain ⟨k0, hk0, hn0⟩ := mem_nm (b.nms _ hm)
  have hdn : ∀ x ∈ done ++ [(popV xs).2], x ∈ NM := by
    intro x hx
    rcases List.mem_append.mp hx with h | h
    · exact b.dn x h
    · rw [List.mem_singleton.mp h]; exact b.nms _ hm
  have hnd : (done ++ [(popV xs).2]).Nodup := by
    rw [List.nodup_append]
    refine ⟨b.nd, by simp, ?_⟩
    intro a ha c hc
    rw [List.mem_singleton.mp hc]
    exact fun e => hv (e ▸ ha)
  have hnl := nodup_le _ NM hnd hdn
  have h7 : NM.length = 7 := rfl
  rw [List.length_append, List.length_singleton] at hnl
  have hbl := b.len
  have hml := net.len
  refine ⟨⟨⟨s1, fun e he => ?_, hdn, hnd, by rw [List.map_append, b.td]; rfl, by rw [List.length_append, List.length_singleton]; omega, fun e he => ?_⟩, fun P hP => ?_⟩, by unfold smeas; rw [List.length_append, List.length_singleton]; omega⟩
  · rcases (s3 e).mp he with h | ⟨mv, hmv, rfl, _⟩
    · exact b.nms e (up e h)
    · show T (popV xs).2 mv.1 ∈ NM
      rw [hn0]
      rcases net.fwd k0 hk0 mv hmv with h | ⟨j, hj, h, _⟩
      · rw [h]; exact nm_mem _ hk0
      · rw [h]; exact nm_mem _ hj
  · rw [List.length_append, List.length_singleton]
    rcases (s3 e).mp he with h | ⟨mv, hmv, rfl, _⟩
    · have := b.cost e (up e h); omega
    · have := b.cost _ hm
      have := net.cost mv hmv
      show (popV xs).1 + mv.2 ≤ _
      omega
  · have F := f P hP
    obtain ⟨k, hk, ek, hlt, hmin⟩ := popV_is net hP b F hne hv
    have e2 : (popV xs).2 = nm k := by rw [ek]
    have e1 : (popV xs).1 = P k := by rw [ek]
    rw [e2] at hv
    rw [e2] at s3 ⊢
    rw [e1] at s3
    rw [ek]
    have inD : ∀ x, x ∈ done ++ [nm k] ↔ x ∈ done ∨ x = nm k := by
      intro x; rw [List.mem_append, List.mem_singleton]
    refine ⟨fun e he => ?_, fun t ht => ?_, fun i j c hs hi => ?_, ?_, ?_, fun t ht j hj hjd hjl => ?_⟩
    · rcases (s3 e).mp he with h | ⟨mv, hmv, rfl, hnt⟩
      · exact F.low e (up e h)
      · rcases net.fwd k hk mv hmv with h | ⟨j, hj, h, hs⟩
        · exact absurd ((inD _).mpr (.inr h)) hnt
        · exact ⟨j, hj, h, hP.fix _ _ _ hs⟩
    · rcases List.mem_append.mp ht with h | h
      · exact F.tld t h
      · rw [List.mem_singleton.mp h]; exact ⟨k, hk, rfl, hlt⟩
    · by_cases hjd : nm j ∈ done ++ [nm k]
      · exact .inl hjd
      · right
        obtain ⟨hi7, hj7, hc1, mv, hmv, hT, hc⟩ := net.bwd _ _ _ hs
        rcases (inD _).mp hi with h | h
        · rcases F.clo _ _ _ hs h with h1 | h1
          · exact absurd ((inD _).mpr (.inl h1)) hjd
          · rcases (popR_mem hne b.hp).mp h1 with e | h1
            · exfalso
              rw [ek] at e
              exact hjd ((inD _).mpr (.inr (congrArg Prod.snd e)))
            · exact (s3 _).mpr (.inl h1)
        · have := nm_inj _ hi7 _ hk h
          subst this
          refine (s3 _).mpr (.inr ⟨mv, hmv, by rw [hT, hc], by rw [hT]; exact hjd⟩)
    · rcases F.ini with h | h
      · exact .inl ((inD _).mpr (.inl h))
      · rcases (popR_mem hne b.hp).mp h with e | h
        · rw [ek] at e
          exact .inl ((inD _).mpr (.inr (congrArg Prod.snd e)))
        · exact .inr ((s3 _).mpr (.inl h))
    · rw [List.pairwise_append]
      refine ⟨F.srt, by simp, fun a ha c hc => ?_⟩
      rw [List.mem_singleton.mp hc]
      exact F.fut a ha k hk hv hlt
    · have hjd1 : nm j ∉ done := fun h => hjd ((inD _).mpr (.inl h))
      have hjd2 : nm j ≠ nm k := fun h => hjd ((inD _).mpr (.inr h))
      rcases List.mem_append.mp ht with h | h
      · exact F.fut t h j hj hjd1 hjl
      · rw [List.mem_singleton.mp h]
        exact lt_of_le_of_ne (hmin j hj hjd1 hjl) (fun e => hjd2 (congrArg Prod.snd e).symm)

theorem sinv_sz (hI : SInv steps xs done told) : xs.length < 100 ∧ done.length < 100 ∧ told.length < 100 ∧ (popR xs).length < 100 ∧ (xs ≠ [] → (popV xs).2 ∈ NM) := by
  obtain ⟨b, _⟩ := hI
  have h1 := b.dlen
  have h2 := b.len
  have h3 : told.length = done.length := by rw [← b.td]; simp
  refine ⟨by omega, by omega, by omega, ?_, fun hne => b.nms _ ((popR_mem hne b.hp).mpr (.inl rfl))⟩
  by_cases hne : xs = []
  · subst hne; decide +kernel
  · have := popR_len hne b.hp; omega

/-- what the search has told -/
theorem told_spec (net : Net T moves steps) (hI : SInv steps [] done told) (hP : Pot steps P) : told.Pairwise (fun a b => ltP a b = true) ∧ ∀ t, t ∈ told ↔ ∃ k, k < 7 ∧ t = (P k, nm k) ∧ P k < 1000000 := by
  obtain ⟨b, f⟩ := hI
  have F := f P hP
  refine ⟨F.srt, fun t => ⟨F.tld t, ?_⟩⟩
  rintro ⟨k, hk, rfl, hlt⟩
  have hd : nm k ∈ done := by
    refine Classical.byContradiction fun hd => ?_
    obtain ⟨e, he, _⟩ := least hP F net _ k hk hlt (Nat.le_refl _) hd
    exact nomatch he
  rw [← b.td] at hd
  obtain ⟨t, ht, e⟩ := List.mem_map.mp hd
  obtain ⟨j, hj, rfl, _⟩ := F.tld t ht
  have := nm_inj _ hj _ hk e
  subst this
  exact ht
end

theorem sorted_uniq : ∀ {l m : List (Int × Str)}, l.Pairwise (fun a b => ltP a b = true) → m.Pairwise (fun a b => ltP a b = true) → (∀ t, t ∈ l ↔ t ∈ m) → l = m
  | [], [], _, _, _ => rfl
  | [], b :: _, _, _, h => nomatch (h b).mpr (.head _)
  | a :: _, [], _, _, h => nomatch (h a).mp (.head _)
  | a :: l, b :: m, hl, hm, h => by
    have asym : ∀ {x y : Int × Str}, ltP x y = true → ltP y x = true → False := fun h1 h2 => by
      have := ltP_trans h1 h2; rw [ltP_irrefl] at this; cases this
    obtain ⟨ha, hl'⟩ := List.pairwise_cons.mp hl
    obtain ⟨hb, hm'⟩ := List.pairwise_cons.mp hm
    have hab : a = b := by
      rcases List.mem_cons.mp ((h a).mp (.head _)) with e | h1
      · exact e
      · rcases List.mem_cons.mp ((h b).mpr (.head _)) with e | h2
        · exact e.symm
        · exact (asym (hb a h1) (ha b h2)).elim
    subst hab
    refine congrArg (a :: ·) (sorted_uniq hl' hm' fun t => ⟨fun ht => ?_, fun ht => ?_⟩)
    · rcases List.mem_cons.mp ((h t).mp (.tail _ ht)) with rfl | h1
      · have := ha t ht; rw [ltP_irrefl] at this; cases this
      · exact h1
    · rcases List.mem_cons.mp ((h t).mpr (.tail _ ht)) with rfl | h1
      · have := hb t ht; rw [ltP_irrefl] at this; cases this
      · exact h1
end Mine
end

section
open PySem PySem.W PyProof.Rows PySem.Calls PySem.Spec
set_option Elab.async false
namespace Mine
theorem walk_start_P3 : True := by w_top off; trivial

/-- what a sort's questions come to, when a pure order answers them -/
def kwp {α : Type} (n : Nat) (c : Nat → Nat → Bool) : KasT α → (α → Prop) → Prop
  | .ret a, Q => Q a
  | .ask i j k, Q => i < n ∧ j < n ∧ kwp n c (k (c i j)) Q
theorem kwp_bind {α β : Type} {n : Nat} {c : Nat → Nat → Bool} {f : α → KasT β} {Q : β → Prop} : ∀ (t : KasT α), kwp n c t (fun a => kwp n c (f a) Q) → kwp n c (t.bind f) Q
  | .ret _, h => h
  | .ask _ _ k, h => ⟨h.1, h.2.1, kwp_bind (k _) h.2.2⟩
theorem kwp_mono {α : Type} {n : Nat} {c : Nat → Nat → Bool} {Q Q' : α → Prop} (hq : ∀ a, Q a → Q' a) : ∀ (t : KasT α), kwp n c t Q → kwp n c t Q'
  | .ret _, h => hq _ h
  | .ask _ _ k, h => ⟨h.1, h.2.1, kwp_mono hq (k _) h.2.2⟩
theorem kwp_use {α : Type} {n : Nat} {c : Nat → Nat → Bool} {cmp : Nat → Nat → (Bool → Shared → Prop) → Shared → Prop} {s : Shared} (hc : ∀ i j C, i < n → j < n → C (c i j) s → cmp i j C s) {Q : α → Prop} {G : α → Shared → Prop} (hG : ∀ a, Q a → G a s) :
    ∀ (t : KasT α), kwp n c t Q → t.kasWp cmp G s
  | .ret _, h => hG _ h
  | .ask _ _ k, h => hc _ _ _ h.1 h.2.1 (kwp_use hc hG (k _) h.2.2)

structure Ord (n : Nat) (c : Nat → Nat → Bool) : Prop where
  tr : ∀ i j k, c i j = true → c j k = true → c i k = true
  tot : ∀ i j, i < n → j < n → i ≠ j → c i j = false → c j i = true

structure IsPerm (n : Nat) (p : Array Nat) : Prop where
  perm : p.toList.Perm (List.range n)
theorem IsPerm.size {n : Nat} {p : Array Nat} (h : IsPerm n p) : p.size = n := by
  have := h.perm.length_eq
  rw [List.length_range, Array.length_toList] at this; exact this
theorem getD_of {p : Array Nat} {i : Nat} (hi : i < p.size) : p[i]? = some (p.getD i 0) := by
  simp [Array.getD, hi]
theorem IsPerm.lt {n : Nat} {p : Array Nat} (h : IsPerm n p) {i : Nat} (hi : i < n) : p.getD i 0 < n := by
  have hi' : i < p.size := by rw [h.size]; exact hi
  have e : p.getD i 0 = p[i] := by simp [Array.getD, hi']
  rw [e]
  have hm : p[i] ∈ p.toList := by rw [Array.mem_toList_iff]; exact Array.getElem_mem hi'
  exact List.mem_range.mp (h.perm.mem_iff.mp hm)
theorem IsPerm.inj {n : Nat} {p : Array Nat} (h : IsPerm n p) {i j : Nat} (hi : i < n) (hj : j < n) (e : p.getD i 0 = p.getD j 0) : i = j := by
  have hn : p.toList.Nodup := h.perm.nodup_iff.mpr List.nodup_range
  have hi' : i < p.toList.length := by rw [Array.length_toList, h.size]; exact hi
  have hj' : j < p.toList.length := by rw [Array.length_toList, h.size]; exact hj
  have e1 : p.getD i 0 = p.toList[i] := by simp at hi'; simp [Array.getD, hi']
  have e2 : p.getD j 0 = p.toList[j] := by simp at hj'; simp [Array.getD, hj']
  rw [e1, e2] at e
  rcases Nat.lt_trichotomy i j with h1 | h1 | h1
  · exact absurd e (List.pairwise_iff_getElem.mp hn i j hi' hj' h1)
  · exact h1
  · exact absurd e.symm (List.pairwise_iff_getElem.mp hn j i hj' hi' h1)

def Srt (c : Nat → Nat → Bool) (p : Array Nat) (r : Nat) : Prop := ∀ i j, i < j → j < r → c (p.getD i 0) (p.getD j 0) = true
def Dsc (c : Nat → Nat → Bool) (p : Array Nat) (r : Nat) : Prop := ∀ i j, i < j → j < r → c (p.getD j 0) (p.getD i 0) = true

section
variable {n : Nat} {c : Nat → Nat → Bool} {p : Array Nat}
theorem Srt.one : Srt c p 1 := fun i j h1 h2 => absurd h2 (by omega)
theorem Srt.succ (O : Ord n c) (h : Srt c p (m + 1)) (hm : c (p.getD m 0) (p.getD (m + 1) 0) = true) : Srt c p (m + 2) := by
  intro i j hij hj
  by_cases e : j = m + 1
  · subst e
    by_cases e2 : i = m
    · subst e2; exact hm
    · exact O.tr _ _ _ (h i m (by omega) (by omega)) hm
  · exact h i j hij (by omega)
theorem Dsc.succ (O : Ord n c) (h : Dsc c p (m + 1)) (hm : c (p.getD (m + 1) 0) (p.getD m 0) = true) : Dsc c p (m + 2) := by
  intro i j hij hj
  by_cases e : j = m + 1
  · subst e
    by_cases e2 : i = m
    · subst e2; exact hm
    · exact O.tr _ _ _ hm (h i m (by omega) (by omega))
  · exact h i j hij (by omega)

theorem asc_ok (O : Ord n c) (hp : IsPerm n p) : ∀ (f a : Nat), 1 ≤ a → a + f ≤ n → Srt c p a →
    kwp n c (kas_asc p f a) (fun m => a ≤ m ∧ m ≤ a + f ∧ Srt c p m ∧ (m < a + f → c (p.getD m 0) (p.getD (m - 1) 0) = true))
  | 0, a, _, _, h => ⟨Nat.le_refl _, Nat.le_refl _, h, fun h => absurd h (by omega)⟩
  | f + 1, a, h1, hn, h => by
    refine ⟨hp.lt (by omega), hp.lt (by omega), ?_⟩
    cases hc : c (p.getD a 0) (p.getD (a - 1) 0) with
    | true => exact ⟨Nat.le_refl _, by omega, h, fun _ => hc⟩
    | false =>
      obtain ⟨m, rfl⟩ : ∃ m, a = m + 1 := ⟨a - 1, by omega⟩
      have := O.tot _ _ (hp.lt (by omega)) (hp.lt (by omega)) (fun e => by have := hp.inj (by omega) (by omega) e; omega) hc
      refine kwp_mono (fun m' h' => ?_) _ (asc_ok O hp f (m + 1 + 1) (by omega) (by omega) (h.succ O this))
      exact ⟨by omega, by omega, h'.2.2.1, fun hlt => h'.2.2.2 (by omega)⟩

theorem desc_ok (O : Ord n c) (hp : IsPerm n p) : ∀ (f a : Nat), 1 ≤ a → a + f ≤ n → Dsc c p a →
    kwp n c (kas_desc f p a 0) (fun r => r.1 = p ∧ r.2.2 = 0 ∧ a ≤ r.2.1 ∧ r.2.1 ≤ a + f ∧ Dsc c p r.2.1)
  | 0, a, _, _, h => ⟨rfl, rfl, Nat.le_refl _, Nat.le_refl _, h⟩
  | f + 1, a, h1, hn, h => by
    refine ⟨hp.lt (by omega), hp.lt (by omega), ?_⟩
    obtain ⟨m, rfl⟩ : ∃ m, a = m + 1 := ⟨a - 1, by omega⟩
    cases hc : c (p.getD (m + 1) 0) (p.getD (m + 1 - 1) 0) with
    | true =>
      dsimp only
      rw [if_pos rfl, if_neg (by omega)]
      refine kwp_mono (fun r h' => ?_) _ (desc_ok O hp f (m + 1 + 1) (by omega) (by omega) (h.succ O hc))
      exact ⟨h'.1, h'.2.1, by omega, by omega, h'.2.2.2.2⟩
    | false =>
      dsimp only
      rw [if_neg (by simp)]
      have := O.tot _ _ (hp.lt (by omega)) (hp.lt (by omega)) (fun e => by have := hp.inj (by omega) (by omega) e; omega) hc
      refine ⟨hp.lt (by omega), hp.lt (by omega), ?_⟩
      dsimp only
      rw [this, if_pos rfl]
      exact ⟨rfl, rfl, Nat.le_refl _, by show m + 1 ≤ m + 1 + (f + 1); omega, h⟩

theorem rev_perm (hp : IsPerm n p) (i j : Nat) : IsPerm n (kas_rev p i j) := ⟨(Array.perm_iff_toList_perm.mp (mirror_perm p i j ((j - i) / 2))).trans hp.perm⟩
theorem rev_get (hp : IsPerm n p) {m : Nat} (hm : m ≤ n) {k : Nat} (hk : k < m) : (kas_rev p 0 m).getD k 0 = p.getD (m - 1 - k) 0 := by
  have h := getElem?_mirror_all (xs := p) (i := 0) (j := m) (by rw [hp.size]; exact hm) k
  rw [if_pos ⟨Nat.zero_le _, hk⟩] at h
  have h1 := getD_of (p := kas_rev p 0 m) (i := k) (by rw [(rev_perm hp 0 m).size]; omega)
  have h2 := getD_of (p := p) (i := 0 + m - 1 - k) (by rw [hp.size]; omega)
  have h3 : (kas_rev p 0 m)[k]? = p[0 + m - 1 - k]? := h
  rw [h1, h2] at h3
  have := Option.some.inj h3
  rw [this, Nat.zero_add]
theorem rev_srt (hp : IsPerm n p) {m : Nat} (hm : m ≤ n) (h : Dsc c p m) : Srt c (kas_rev p 0 m) m := by
  intro i j hij hj
  rw [rev_get hp hm (by omega), rev_get hp hm hj]
  exact h _ _ (by omega) (by omega)

theorem count_ok (O : Ord n c) (hp : IsPerm n p) (hn : 1 ≤ n) : kwp n c (kas_count n p) (fun r => 1 ≤ r.1 ∧ r.1 ≤ n ∧ IsPerm n r.2 ∧ Srt c r.2 r.1) := by
  refine kwp_bind _ (kwp_mono ?_ _ (asc_ok O hp (n - 1) 1 (Nat.le_refl _) (by omega) Srt.one))
  rintro m ⟨h1, h2, h3, h4⟩
  by_cases e : m = n
  · subst e
    rw [if_pos (by simp)]
    exact ⟨h1, Nat.le_refl _, hp, h3⟩
  · rw [if_neg (by simpa using e)]
    by_cases e1 : m > 1
    · rw [if_pos e1]
      refine ⟨hp.lt (by omega), hp.lt (by omega), ?_⟩
      dsimp only
      rw [h3 0 (m - 1) (by omega) (by omega), if_pos rfl]
      exact ⟨h1, by omega, hp, h3⟩
    · rw [if_neg e1]
      obtain rfl : m = 1 := by omega
      have hc := h4 (by omega)
      have hd : Dsc c p 2 := by
        intro i j hij hj
        obtain rfl : i = 0 := by omega
        obtain rfl : j = 1 := by omega
        exact hc
      refine kwp_bind _ (kwp_mono ?_ _ (desc_ok O hp (n - (1 + 1)) 2 (by omega) (by omega) hd))
      rintro ⟨p', m, q⟩ ⟨r1, r2, r3, r4, r5⟩
      simp only at r1 r2 r3 r4 r5
      subst r1 r2
      dsimp only
      rw [if_neg (Nat.lt_irrefl 0)]
      refine kwp_bind _ (kwp_mono ?_ _ (asc_ok O (rev_perm hp 0 m) (n - m) m (by omega) (by omega) (rev_srt hp (by omega) r5)))
      rintro m' ⟨t1, t2, t3, _⟩
      exact ⟨by omega, by omega, rev_perm hp 0 m, t3⟩

theorem place_ok (O : Ord n c) (hp : IsPerm n p) {k : Nat} (hk : k < n) (hs : Srt c p k) : ∀ (f l r : Nat), l ≤ r → r ≤ k → r - l ≤ f → (∀ i, i < l → c (p.getD i 0) (p.getD k 0) = true) → (∀ i, r ≤ i → i < k → c (p.getD k 0) (p.getD i 0) = true) →
    kwp n c (kas_place p k f l r) (fun l' => l' ≤ k ∧ (∀ i, i < l' → c (p.getD i 0) (p.getD k 0) = true) ∧ (∀ i, l' ≤ i → i < k → c (p.getD k 0) (p.getD i 0) = true))
  | 0, l, r, h1, h2, h3, h4, h5 => by
    obtain rfl : l = r := by omega
    exact ⟨h2, h4, h5⟩
  | f + 1, l, r, h1, h2, h3, h4, h5 => by
    unfold kas_place
    by_cases hlr : l ≥ r
    · rw [if_pos hlr]
      obtain rfl : l = r := by omega
      exact ⟨h2, h4, h5⟩
    · rw [if_neg hlr]
      refine ⟨hp.lt hk, hp.lt (by omega), ?_⟩
      cases hc : c (p.getD k 0) (p.getD ((l + r) / 2) 0) with
      | true =>
        dsimp only
        rw [if_pos rfl]
        refine place_ok O hp hk hs f l _ (by omega) (by omega) (by omega) h4 fun i hi hik => ?_
        by_cases e : i = (l + r) / 2
        · subst e; exact hc
        · exact O.tr _ _ _ hc (hs _ _ (by omega) hik)
      | false =>
        dsimp only
        rw [if_neg (by simp)]
        have ht := O.tot _ _ (hp.lt hk) (hp.lt (by omega)) (fun e => by have := hp.inj hk (by omega) e; omega) hc
        refine place_ok O hp hk hs f _ r (by omega) h2 (by omega) (fun i hi => ?_) h5
        by_cases e : i = (l + r) / 2
        · subst e; exact ht
        · exact O.tr _ _ _ (hs _ _ (by omega) (by omega)) ht

theorem bub_get (hp : IsPerm n p) {k l : Nat} (hk : k < n) (hl : l ≤ k) {i : Nat} (hi : i < n) : (bubble p k (k - l)).getD i 0 = if i = l then p.getD k 0 else if l < i ∧ i ≤ k then p.getD (i - 1) 0 else p.getD i 0 := by
  have h := getElem?_bubble (xs := p) (src := k) (by rw [hp.size]; exact hk) (k - l) (by omega) i
  have e : k - (k - l) = l := by omega
  rw [e] at h
  rw [getD_of (by rw [bubble_size, hp.size]; exact hi)] at h
  have g : ∀ {x : Nat}, x < n → p[x]? = some (p.getD x 0) := fun hx => getD_of (by rw [hp.size]; exact hx)
  split at h
  · rename_i e; rw [if_pos e, Option.some.inj (h.trans (g hk))]
  · rename_i e
    rw [if_neg e]
    split at h
    · rename_i e; rw [if_pos e, Option.some.inj (h.trans (g (by omega)))]
    · rename_i e; rw [if_neg e, Option.some.inj (h.trans (g hi))]

theorem bin_ok (O : Ord n c) : ∀ (f : Nat) (p : Array Nat) (k : Nat), IsPerm n p → k + f = n → Srt c p k → kwp n c (kas_bin f p k) (fun p' => IsPerm n p' ∧ Srt c p' n)
  | 0, p, k, hp, hkn, hs => by
    obtain rfl : k = n := by omega
    exact ⟨hp, hs⟩
  | f + 1, p, k, hp, hkn, hs => by
    refine kwp_bind _ (kwp_mono ?_ _ (place_ok O hp (by omega) hs k 0 k (Nat.zero_le _) (Nat.le_refl _) (by omega) (fun i hi => absurd hi (by omega)) (fun i h1 h2 => absurd h2 (by omega))))
    rintro l ⟨hl, h1, h2⟩
    refine bin_ok O f _ (k + 1) ⟨(Array.perm_iff_toList_perm.mp (bubble_perm p k (k - l))).trans hp.perm⟩ (by omega) ?_
    intro i j hij hj
    rw [bub_get hp (by omega) hl (by omega), bub_get hp (by omega) hl (by omega)]
    by_cases ei : i = l
    · subst ei
      rw [if_pos rfl, if_neg (by omega), if_pos ⟨by omega, by omega⟩]
      exact h2 _ (by omega) (by omega)
    · rw [if_neg ei]
      by_cases ej : j = l
      · subst ej
        rw [if_pos rfl, if_neg (by omega)]
        exact h1 _ hij
      · rw [if_neg ej]
        by_cases ei2 : l < i ∧ i ≤ k
        · rw [if_pos ei2, if_pos ⟨by omega, by omega⟩]
          exact hs _ _ (by omega) (by omega)
        · rw [if_neg ei2]
          by_cases ej2 : l < j ∧ j ≤ k
          · rw [if_pos ej2]
            exact hs _ _ (by omega) (by omega)
          · rw [if_neg ej2]
            exact hs _ _ hij (by omega)

theorem sort_ok (O : Ord n c) (hn : 1 ≤ n) : kwp n c (kas_sort n) (fun p => IsPerm n p ∧ Srt c p n) := by
  have hp : IsPerm n (List.toArray (List.range n)) := ⟨List.Perm.refl _⟩
  refine kwp_bind _ (kwp_mono ?_ _ (count_ok O hp hn))
  rintro ⟨r, p⟩ ⟨h1, h2, h3, h4⟩
  simp only at h1 h2 h3 h4 ⊢
  by_cases e : r < n
  · rw [if_pos e]
    have em : max r 1 = r := by omega
    rw [em]
    exact bin_ok O _ _ _ h3 (by omega) h4
  · rw [if_neg e]
    obtain rfl : r = n := by omega
    exact ⟨h3, h4⟩
end
end Mine
end

section
open PySem PySem.W PyProof.Rows PySem.Calls PySem.Spec PySem.SeqAt PyProof.Rows.LCg PyProof.Rows.LCt
set_option Elab.async false
set_option maxRecDepth 100000
set_option maxHeartbeats 8000000
namespace Mine
theorem walk_start_BD : True := by w_top off; trivial

/-- a list of texts, as data -/
def dS (ns : List Str) : PyData := .list (ns.map .str)
theorem reads_strs {h : Heap} {vs : List Value} {ns : List Str} (hall : All2 IsS vs ns) : ReadsAll h vs (ns.map .str) [] := by
  induction hall with
  | nil => exact .nil
  | cons h1 _ ih =>
    obtain ⟨t, rfl⟩ := h1
    exact ReadsAll.cons (as := []) (bs := []) (.str _ t) ih
def OkS (ns : List Str) : Prop := ∀ c ∈ ns, PyData.strOk c = true
theorem lay_strs : ∀ {ns : List Str}, OkS ns → PyData.canLayAll0 (ns.map .str) = true
  | [], _ => by simp [PyData.canLayAll0]
  | c :: ns, h => by
    have h1 := h c (.head _)
    have h2 := lay_strs (ns := ns) fun d hd => h d (.tail _ hd)
    simp [PyData.canLayAll0, PyData.canLay0, h1, h2]
theorem depth_strs : ∀ ns : List Str, PyData.depthAll (ns.map .str) ≤ 1
  | [] => by simp [PyData.depthAll]
  | c :: ns => by
    have := depth_strs ns
    simp [PyData.depthAll, PyData.depth]
    omega
theorem dS_lay {ns : List Str} (h : OkS ns) : (dS ns).canLay0 = true := by
  simp only [dS, PyData.canLay0]; exact lay_strs h
theorem dS_depth (ns : List Str) : (dS ns).depth ≤ 2 := by
  have := depth_strs ns
  simp only [dS, PyData.depth]; omega
theorem eqvAll_strs : ∀ a b : List Str, PyData.eqvAll (a.map .str) (b.map .str) = decide (a = b)
  | [], [] => by simp [PyData.eqvAll]
  | [], _ :: _ => by simp [PyData.eqvAll]
  | _ :: _, [] => by simp [PyData.eqvAll]
  | x :: r, y :: t => by
    simp only [List.map_cons, PyData.eqvAll, PyData.eqv, eqvAll_strs r t]
    by_cases h : x = y <;> by_cases h' : r = t <;> simp [h, h']
theorem eqv_dS (a b : List Str) : PyData.eqv (dS a) (dS b) = decide (a = b) := by
  simp only [dS, PyData.eqv]; exact eqvAll_strs a b

/-- a list of texts that the ledger holds -/
def ListAt (own : List (Addr × Obj)) (v : Value) (ns : List Str) : Prop := ∃ a vs n, v = .ref a ∧ (a, listOf vs.toArray n) ∈ own ∧ All2 IsS vs ns
theorem ListAt.up {l l' : List (Addr × Obj)} (hs : ∀ q ∈ l, q ∈ l') {v : Value} {x : List Str} (h : ListAt l v x) : ListAt l' v x := by
  obtain ⟨a, vs, n, e, hm, hall⟩ := h
  exact ⟨a, vs, n, e, hs _ hm, hall⟩
theorem reads_list {h₀ h : Heap} {L : Addr} {news : List (Addr × Obj)} (N : News h₀ L h news) {v : Value} {ns : List Str} (hv : ListAt news v ns) : ∃ as, Reads h v (dS ns) as := by
  obtain ⟨a, vs, n, rfl, hm, hall⟩ := hv
  exact ⟨_, Reads.list (N _ hm).1 rfl rfl (reads_strs hall)⟩
theorem reads_lists {h₀ h : Heap} {L : Addr} {news : List (Addr × Obj)} (N : News h₀ L h news) {vs : List Value} {pls : List (List Str)} (hv : All2 (ListAt news) vs pls) : ∃ as, ReadsAll h vs (pls.map dS) as := by
  induction hv with
  | nil => exact ⟨_, .nil⟩
  | cons h1 _ ih =>
    obtain ⟨as, r1⟩ := reads_list N h1
    obtain ⟨bs, r2⟩ := ih
    exact ⟨_, .cons r1 r2⟩
theorem lay_lists : ∀ {pls : List (List Str)}, (∀ ns ∈ pls, OkS ns) → PyData.canLayAll0 (pls.map dS) = true
  | [], _ => by simp [PyData.canLayAll0]
  | ns :: pls, h => by
    have h1 := dS_lay (h ns (.head _))
    have h2 := lay_lists (pls := pls) fun d hd => h d (.tail _ hd)
    simp [PyData.canLayAll0, h1, h2]

section
variable {prog : Program} {w : World} {A : Around} {E : Value → Shared → Prop} {s : Shared} {h₀ : Heap} {L : Addr} {news : List (Addr × Obj)}
theorem in_lists {l : Addr} {n : Nat} {vs : List Value} {pls : List (List Str)} {v : Value} {ns : List Str} {Q : Value → Shared → Prop} (N : News h₀ L s.heap news) (hl : (l, listOf vs.toArray n) ∈ news) (hv : All2 (ListAt news) vs pls) (hx : ListAt news v ns)
    (ho : ∀ ns ∈ pls, OkS ns) (hn : OkS ns) (hu : A.units + 10 < cLine) (h : Q (.bool (decide (ns ∈ pls))) s) : wpAny (model prog w) A (compareOp .In v (.ref l)) Q E s := by
  obtain ⟨as, r1⟩ := reads_lists N hv
  obtain ⟨bs, r2⟩ := reads_list N hx
  refine in_list_reads (Reads.list (N _ hl).1 rfl rfl r1) r2 (lay_lists ho) (dS_lay hn) (by have := dS_depth ns; have := Nat.min_le_right (PyData.depthAll (pls.map dS)) (dS ns).depth; omega) ?_
  have e : (pls.map dS).any (fun y => PyData.eqv y (dS ns)) = decide (ns ∈ pls) := by
    rw [List.any_map]
    rw [Bool.eq_iff_iff, List.any_eq_true, decide_eq_true_iff]
    constructor
    · rintro ⟨x, hx, e⟩
      simp only [Function.comp, eqv_dS, decide_eq_true_eq] at e
      exact e ▸ hx
    · intro h; exact ⟨ns, h, by simp [Function.comp, eqv_dS]⟩
  rw [e]; exact h
theorem index_lists {l : Addr} {n : Nat} {vs : List Value} {pls : List (List Str)} {v : Value} {ns : List Str} {Q : Value → Shared → Prop} (N : News h₀ L s.heap news) (hl : (l, listOf vs.toArray n) ∈ news) (hv : All2 (ListAt news) vs pls) (hx : ListAt news v ns)
    (ho : ∀ ns ∈ pls, OkS ns) (hn : OkS ns) (hu : A.units + 20 < cLine) (hm : ns ∈ pls) (hsz : pls.length < 1000) (h : Q (.int (pls.idxOf ns : Nat) s.toks) { s with toks := s.toks + 1 }) :
    wpAny (model prog w) A (call (.builtin "list.index") [.ref l, v]) Q E s := by
  obtain ⟨as, r1⟩ := reads_lists N hv
  obtain ⟨bs, r2⟩ := reads_list N hx
  have hmap := readsAll_map _ _ _ (lay_lists ho) r1
  have hlen := hv.length
  have hj : pls.idxOf ns < pls.length := List.idxOf_lt_length_iff.mpr hm
  have key : ∀ j (hj : j < vs.length) (hj2 : j < pls.length), PyData.eqv (readOf s.heap vs[j]) (dS ns) = decide (pls[j] = ns) := by
    intro j hj hj2
    have e : readOf s.heap vs[j] = dS pls[j] := by
      have e1 : (vs.map (readOf s.heap))[j]'(by simpa using hj) = (pls.map dS)[j]'(by simpa using hj2) := by simp only [hmap]
      simpa using e1
    rw [e, eqv_dS]
  refine call_meets PySem.F.slot_list_index ⟨_, (N _ hl).1, rfl⟩ PySem.F.entry_list_index (PySem.F.args_list_index_2 _ _)
    (list_indexAt l vs.toArray n none _ v (fun y => PyData.eqv (readOf s.heap y) (dS ns)) (pls.idxOf ns) (by simpa [hlen] using hj) (by omega) ?_ ?_) ⟨(N _ hl).1, ?_, h⟩
  · have := key (pls.idxOf ns) (by omega) hj
    simp only [List.getElem_toArray]
    rw [this]
    simpa using List.getElem_idxOf hj
  · intro j hjs hlt
    simp only [List.size_toArray] at hjs
    have := key j hjs (by omega)
    simp only [List.getElem_toArray]
    rw [this, decide_eq_false_iff_not]
    intro e
    have := List.not_of_lt_findIdx (p := (· == ns)) (xs := pls) hlt
    rw [e] at this
    simp at this
  · exact items_eqAt (A := A) r1 r2 (lay_lists ho) (dS_lay hn) (by have := dS_depth ns; have := Nat.min_le_right (PyData.depthAll (pls.map dS)) (dS ns).depth; omega)
end

/-- a told list, as data -/
def dP (x : Int × Str) : PyData := .tuple [.int x.1, .str x.2]
theorem reads_items {h₀ h : Heap} {L : Addr} {news : List (Addr × Obj)} (N : News h₀ L h news) {vs : List Value} {xs : List (Int × Str)} (hv : All2 (ItemAt news) vs xs) : ReadsAll h vs (xs.map dP) [] := by
  induction hv with
  | nil => exact .nil
  | cons h1 _ ih =>
    obtain ⟨a, t, u, n, rfl, hm⟩ := h1
    exact ReadsAll.cons (as := []) (bs := []) (Reads.tuple (N _ hm).1 rfl rfl (ReadsAll.cons (as := []) (bs := []) (.int _ t) (ReadsAll.cons (as := []) (bs := []) (.str _ u) .nil))) ih
theorem shaped_items : ∀ {xs : List (Int × Str)}, (∀ x ∈ xs, PyData.strOk x.2 = true) → PyData.canLayAll0 (xs.map dP) = true ∧ PyData.depthAll (xs.map dP) ≤ 2
  | [], _ => by simp [PyData.canLayAll0, PyData.depthAll]
  | x :: xs, h => by
    obtain ⟨h1, h2⟩ := shaped_items (xs := xs) fun d hd => h d (.tail _ hd)
    have h3 := h x (.head _)
    refine ⟨by simp [PyData.canLayAll0, PyData.canLay0, dP, h1, h3], ?_⟩
    simp [PyData.depthAll, PyData.depth, dP]
    omega
theorem eqv_items : ∀ xs : List (Int × Str), PyData.eqvAll (xs.map dP) (xs.map dP) = true
  | [] => by simp [PyData.eqvAll]
  | x :: xs => by simp [PyData.eqvAll, PyData.eqv, dP, eqv_items xs]

/-- a comprehension by what holds between its turns -/
theorem comp_inv {prog : Program} {w : World} {A : Around} {h₀ : Heap} {L : Addr} {m : Str → Option Value} {env : Env} {elt : PySem.Expr} {x : Str} {scope : Scope} {cl : List (Str × Addr)} {s : Shared} {S : List (Addr × Obj) → Prop} {P : Nat → Value → Prop}
    {Fin : List Value → List (Addr × Obj) → Prop} (J : Nat → List Value → List (Addr × Obj) → Prop) (n : Nat)
    (turn : ∀ i ys news v I oI C oC D m₂ h tk (E' : Value → Shared → Prop), i < n → J i ys news → P i v → NsObj oC m₂ → m₂ x = some v → Fr h₀ L h m → News h₀ L h ((I, oI) :: (C, oC) :: (D, lst ys) :: news) → Off3 I C D news → ((@Ne Nat I C) ∧ (@Ne Nat I D) ∧ (@Ne Nat C D)) →
      wpAny (model prog w) A (eval elt (compEnvC scope cl C env)) (CompEnd h₀ L m { s with heap := h, toks := tk } I oI C oC D (lst ys) S (fun y news' => J (i + 1) (ys ++ [y]) news')) E' { s with heap := h, toks := tk })
    (done : ∀ ys news, J n ys news → Fin ys news) : ∀ k i ys news, i + k = n → J i ys news → CompRest prog w A h₀ L m env elt x scope cl s S P Fin k i ys news
  | 0, i, ys, news, hi, hj => by
    obtain rfl : i = n := by omega
    exact CompRest.zero (done ys news hj)
  | k + 1, i, ys, news, hi, hj => by
    refine CompRest.succ fun v I oI C oC D m₂ h tk E' hv hC hx F N off ne => ?_
    refine wpAny_mono (turn i ys news v I oI C oC D m₂ h tk E' (by omega) hj hv hC hx F N off ne) (fun y s₂ hs => ?_) fun _ _ e => e
    obtain ⟨h', tk', news', rfl, F', N', off', hS, hr⟩ := hs
    exact ⟨h', tk', news', rfl, F', N', off', hS, comp_inv J n turn done k (i + 1) (ys ++ [y]) news' (by omega) hr⟩
theorem comp_invT {prog : Program} {w : World} {A : Around} {h₀ : Heap} {L : Addr} {m : Str → Option Value} {env : Env} {ct elt : PySem.Expr} {x : Str} {scope : Scope} {cl : List (Str × Addr)} {s : Shared} {S : List (Addr × Obj) → Prop} {P : Nat → Value → Prop}
    {Fin : List Value → List (Addr × Obj) → Prop} (J : Nat → List Value → List (Addr × Obj) → Prop) (n : Nat)
    (turn : ∀ i ys news v I oI C oC D m₂ h tk (E' : Value → Shared → Prop), i < n → J i ys news → P i v → NsObj oC m₂ → m₂ x = some v → Fr h₀ L h m → News h₀ L h ((I, oI) :: (C, oC) :: (D, lst ys) :: news) → Off3 I C D news → ((@Ne Nat I C) ∧ (@Ne Nat I D) ∧ (@Ne Nat C D)) →
      wpAny (model prog w) A (isTrue ct (compEnvC scope cl C env) (eval ct (compEnvC scope cl C env))) (fun ok s' => if ok = true then
        wpAny (model prog w) A (eval elt (compEnvC scope cl C env)) (CompEnd h₀ L m { s with heap := h, toks := tk } I oI C oC D (lst ys) S (fun y news' => J (i + 1) (ys ++ [y]) news')) E' s'
        else CompEnd h₀ L m { s with heap := h, toks := tk } I oI C oC D (lst ys) S (fun _ news' => J (i + 1) ys news') Value.none s') E' { s with heap := h, toks := tk })
    (done : ∀ ys news, J n ys news → Fin ys news) : ∀ k i ys news, i + k = n → J i ys news → CompRestT prog w A h₀ L m env ct elt x scope cl s S P Fin k i ys news
  | 0, i, ys, news, hi, hj => by
    obtain rfl : i = n := by omega
    exact CompRestT.zero (done ys news hj)
  | k + 1, i, ys, news, hi, hj => by
    refine CompRestT.succ fun v I oI C oC D m₂ h tk E' hv hC hx F N off ne => ?_
    have up : ∀ (ys' : Value → List Value) (y : Value) s₂, CompEnd h₀ L m { s with heap := h, toks := tk } I oI C oC D (lst ys) S (fun y news' => J (i + 1) (ys' y) news') y s₂ →
        CompEnd h₀ L m { s with heap := h, toks := tk } I oI C oC D (lst ys) S (fun y news' => CompRestT prog w A h₀ L m env ct elt x scope cl s S P Fin k (i + 1) (ys' y) news') y s₂ := by
      rintro ys' y s₂ ⟨h', tk', news', rfl, F', N', off', hS, hr⟩
      exact ⟨h', tk', news', rfl, F', N', off', hS, comp_invT J n turn done k (i + 1) (ys' y) news' (by omega) hr⟩
    refine wpAny_mono (turn i ys news v I oI C oC D m₂ h tk E' (by omega) hj hv hC hx F N off ne) (fun ok s₁ hs => ?_) fun _ _ e => e
    cases ok with
    | true =>
      simp only [if_true] at hs ⊢
      exact wpAny_mono hs (fun y s₂ hs => up (fun y => ys ++ [y]) y s₂ hs) fun _ _ e => e
    | false =>
      simp only [Bool.false_eq_true, if_false] at hs ⊢
      exact up (fun _ => ys) _ _ hs

section
variable {prog : Program} {w : World} {A : Around} {E : Value → Shared → Prop} {s : Shared} {h₀ : Heap} {L a : Addr} {m : Str → Option Value} {news : List (Addr × Obj)}
/-- a list of one item is sorted -/
theorem sort_one {n : Nat} {v : Value} {P : PySem.Fin → Shared → Prop} (F : Fr h₀ L s.heap m) (N : News h₀ L s.heap news) (ho : s.heap.get? a = some (seqObj "list" [v].toArray n)) (haL : a ≠ L) (ha0 : h₀.get? a = none) (hna : ∀ p ∈ news, p.1 ≠ a)
    (h : ∀ h' c, Fr h₀ L h' m → News h₀ L h' ((a, listOf [v].toArray c) :: news) → P (.done (.ret .none)) { s with heap := h' }) : wpAny (model prog w) A (Builtin.«list.sort» ⟨[.ref a], []⟩) P E s := by
  have b1 := Heap.SameBut.update s.heap a (Obj.mapSeq fun _ => (#[] : Array Value))
  obtain ⟨e1, ho1⟩ : ∃ e1, (s.heap.update a (Obj.mapSeq fun _ => (#[] : Array Value))).get? a = some (seqObj "list" #[] e1) := ⟨_, get?_update_seq ho fun _ => #[]⟩
  have F3 := ((kas_fr F b1 haL ha0).push (seqObj "tuple" [v].toArray 0)).push (seqObj "list" #[] 0)
  have N3 := (kas_news N b1 hna).grown fun b x e => Heap.get?_push_of_some (seqObj "list" #[] 0) (Heap.get?_push_of_some (seqObj "tuple" [v].toArray 0) e)
  have o3 := Heap.get?_push_of_some (seqObj "list" #[] 0) (Heap.get?_push_of_some (seqObj "tuple" [v].toArray 0) ho1)
  rw [list_sort_plain]
  refine wpAny_bind (listItems_at ho rfl ?_)
  refine wpAny_bind (listUpdate_at ho rfl ?_ (by rw [sizeLine_eq]; show 1 ≤ _; decide) (Nat.zero_le _))
  refine wpAny_bind (seqEpoch_at ho1 rfl ?_)
  refine wpAny_bind (wpAny_newTuple ?_ (by rw [sizeLine_eq]; show 1 ≤ _; decide))
  refine wpAny_bind (wpAny_newList ?_ (Nat.zero_le _))
  refine wpAny_holding ?_
  dsimp only
  have hlt : ([v].toArray : Array Value).size < 2 := by show 1 < 2; decide
  rw [if_pos hlt, if_pos hlt]
  refine wpAny_bind (wpAny_pure ?_)
  refine wpAny_bind (wpAny_pure ?_)
  dsimp only
  have e0 : Array.map (fun x => x.snd) (arrOf (SortSt.mk' general' (([v].toArray : Array Value).zip [v].toArray) #[] 7 none)) = [v].toArray := by
    show Array.map (fun x => x.2) (([v].toArray : Array Value).zip [v].toArray) = _
    simp
  rw [e0]
  have b2 := Heap.SameBut.update (((s.heap.update a (Obj.mapSeq fun _ => (#[] : Array Value))).push (seqObj "tuple" [v].toArray 0)).push (seqObj "list" #[] 0)) a (Obj.mapSeq fun _ => [v].toArray)
  obtain ⟨c2, hc2⟩ : ∃ c2, ((((s.heap.update a (Obj.mapSeq fun _ => (#[] : Array Value))).push (seqObj "tuple" [v].toArray 0)).push (seqObj "list" #[] 0)).update a (Obj.mapSeq fun _ => [v].toArray)).get? a = some (seqObj "list" [v].toArray c2) := ⟨_, get?_update_seq o3 fun _ => [v].toArray⟩
  refine wpAny_bind (seqEpoch_at o3 rfl ?_)
  refine wpAny_bind (listUpdate_at o3 rfl ?_ (Nat.zero_le _) (by rw [sizeLine_eq]; show 1 ≤ _; decide))
  simp only [bne_self_eq_false, Bool.false_eq_true, if_false]
  refine wpAny_pure (h _ c2 (kas_fr F3 b2 haL ha0) ?_)
  intro p hp
  rcases List.mem_cons.mp hp with rfl | hp
  · exact ⟨hc2, haL, ha0⟩
  · exact kas_news N3 b2 hna p hp

theorem key_kind {vs : List Value} {xs : List (Int × Str)} {M : Model} {A : Around} {E : Value → Shared → Prop} {s : Shared} {own : List (Addr × Obj)} {Q : SortKind → Shared → Prop} (N : News h₀ L s.heap news) (hown : ∀ q ∈ own, q ∈ news) (hv : All2 (ItemAt own) vs xs) (hne : 1 ≤ xs.length) (h : Q (tuples' true) s) :
    wpAny M A (keyKind' vs.toArray) Q E s := by
  have : ∃ fs : List Value, KatTups s.heap vs fs ∧ fs.length = xs.length ∧ ∀ v ∈ fs, ∃ i t, v = .int i t := by
    clear h hne
    induction hv with
    | nil => exact ⟨[], KatTups.nil, rfl, fun _ h => nomatch h⟩
    | @cons a x l r h1 _ ih =>
      obtain ⟨fs, t, e, k⟩ := ih
      obtain ⟨b, t1, u1, n1, rfl, hm⟩ := h1
      refine ⟨.int x.1 t1 :: fs, KatTups.cons (N _ (hown _ hm)).1 rfl rfl rfl t, by simp [e], ?_⟩
      intro v hv
      rcases List.mem_cons.mp hv with rfl | hv
      · exact ⟨_, _, rfl⟩
      · exact k v hv
  obtain ⟨fs, t, e, k⟩ := this
  refine kat_kind (T := .type "int") t (by omega) (fun v hv => ?_) (by decide) h
  obtain ⟨i, t, rfl⟩ := k v hv
  exact Looks.of_pure rfl

theorem key_lt {own : List (Addr × Obj)} {x y : Int × Str} {v w' : Value} {C : Bool → Shared → Prop} (N : News h₀ L s.heap news) (hown : ∀ q ∈ own, q ∈ news) (hx : ItemAt own v x) (hy : ItemAt own w' y) (h : C (ltP x y) s) :
    wpAny (model prog w) A (keyLt' (tuples' true) v w') C E s := by
  obtain ⟨a1, t1, u1, n1, rfl, m1⟩ := hx
  obtain ⟨a2, t2, u2, n2, rfl, m2⟩ := hy
  refine kat_lt (N _ (hown _ m1)).1 rfl (N _ (hown _ m2)).1 rfl ?_
  show KatLex prog w A true (decide (2 < 2)) C [(Value.int x.1 t1, Value.int y.1 t2), (Value.str x.2 u1, Value.str y.2 u2)] 0 s
  refine kat_cons (wpAny_eqBool_int ?_)
  unfold ltP at h
  by_cases hij : x.1 = y.1
  · rw [if_pos hij] at h
    have e : (x.1 == y.1) = true := by simpa using hij
    rw [e]
    refine kat_yes (kat_cons (wpAny_eqBool_str ?_))
    by_cases hxy : x.2 = y.2
    · rw [if_pos hxy] at h
      have e : (decide (x.2 = y.2)) = true := by simpa using hxy
      rw [e]
      exact kat_yes (kat_nil h)
    · rw [if_neg hxy] at h
      have e : (decide (x.2 = y.2)) = false := by simpa using hxy
      rw [e]
      refine kat_no ?_
      show wpAny _ _ (oneLt' false _ _) _ _ _
      exact kat_one _ _ (lt_str h)
  · rw [if_neg hij] at h
    have e : (x.1 == y.1) = false := by simpa using hij
    rw [e]
    refine kat_no ?_
    show wpAny _ _ (oneLt' true _ _) _ _ _
    exact oneLt_int h

theorem all2_map {own : List (Addr × Obj)} {vs : List Value} {xs : List (Int × Str)} (hv : All2 (ItemAt own) vs xs) : ∀ ps : List Nat, (∀ i ∈ ps, i < xs.length) → All2 (ItemAt own) (ps.map fun i => vs.getD i Value.none) (ps.map fun i => xs.getD i D0)
  | [], _ => .nil
  | i :: ps, h => by
    obtain ⟨v, e, hI⟩ := hv.get i D0 (h i (.head _))
    refine .cons ?_ (all2_map hv ps fun j hj => h j (.tail _ hj))
    show ItemAt own (vs.getD i Value.none) (xs.getD i D0)
    rw [List.getD_eq_getElem?_getD, e]; exact hI

theorem sorted_items {l : Addr} {n : Nat} {vs : List Value} {xs : List (Int × Str)} {own : List (Addr × Obj)} {Q : Value → Shared → Prop} (F : Fr h₀ L s.heap m) (N : News h₀ L s.heap news) (hl : (l, listOf vs.toArray n) ∈ news) (hown : ∀ q ∈ own, q ∈ news) (hv : All2 (ItemAt own) vs xs)
    (hnd : xs.Nodup) (h1 : 1 ≤ xs.length) (h64 : xs.length < 64)
    (h : ∀ D vs' n' h' xs', Fr h₀ L h' m → News h₀ L h' ((D, listOf vs'.toArray n') :: news) → (∀ q ∈ news, q.1 < D) → All2 (ItemAt own) vs' xs' → (∀ t, t ∈ xs' ↔ t ∈ xs) → xs'.Pairwise (fun a b => ltP a b = true) → Q (.ref D) { s with heap := h' }) :
    wpAny (model prog w) A (call (.builtin "sorted") [.ref l]) Q E s := by
  have hlen := hv.length
  have hL := PySem.IsL.isList (N _ hl).1
  by_cases h2 : 2 ≤ xs.length
  · refine kat_sorted F N hL (by omega) (by omega) ?_
    intro D e1 h' F' N' hlt
    have N1 : News h₀ L h' news := fun q hq => N' q (.tail _ hq)
    refine key_kind (s := { s with heap := h' }) N1 hown hv h1 ?_
    have O : Ord xs.length (fun i j => ltP (xs.getD i D0) (xs.getD j D0)) := by
      refine ⟨fun i j k a b => ltP_trans a b, fun i j hi hj hij hc => ?_⟩
      refine Classical.byContradiction fun hn => hij ?_
      have := ltP_tot hc (Bool.eq_false_iff.mpr hn)
      rw [List.getD_eq_getElem?_getD, List.getD_eq_getElem?_getD, List.getElem?_eq_getElem hi, List.getElem?_eq_getElem hj] at this
      have this : xs[i] = xs[j] := this
      rcases Nat.lt_trichotomy i j with h1 | h1 | h1
      · exact absurd this (List.pairwise_iff_getElem.mp hnd i j hi hj h1)
      · exact h1
      · exact absurd this.symm (List.pairwise_iff_getElem.mp hnd j i hj hi h1)
    have hs := sort_ok O h1
    rw [← hlen] at hs
    refine kwp_use (Q := fun p => IsPerm vs.length p ∧ Srt (fun i j => ltP (xs.getD i D0) (xs.getD j D0)) p vs.length) (fun i j C hi hj hC => ?_) (fun p hp => ?_) _ hs
    · obtain ⟨v1, ev1, hI1⟩ := hv.get i D0 (by omega)
      obtain ⟨v2, ev2, hI2⟩ := hv.get j D0 (by omega)
      unfold kas_ask
      rw [List.getD_eq_getElem?_getD, List.getD_eq_getElem?_getD, ev1, ev2]
      exact key_lt (s := { s with heap := h' }) N1 hown hI1 hI2 hC
    · obtain ⟨hp, hsr⟩ := hp
      have hmem : ∀ i, i ∈ p.toList ↔ i < vs.length := fun i => (hp.perm.mem_iff).trans List.mem_range
      refine KasFin.intro F' N' (.head fun q hq => Nat.ne_of_lt (hlt q hq)) fun h'' c F'' N'' => ?_
      refine h D (p.toList.map fun i => vs.getD i Value.none) c h'' (p.toList.map fun i => xs.getD i D0) F'' N'' hlt (all2_map hv _ fun i hi => by have := (hmem i).mp hi; omega) (fun t => ?_) ?_
      · rw [List.mem_map]
        constructor
        · rintro ⟨i, hi, rfl⟩
          have hi' : i < xs.length := by have := (hmem i).mp hi; omega
          rw [List.getD_eq_getElem?_getD, List.getElem?_eq_getElem hi']
          exact List.getElem_mem _
        · intro ht
          obtain ⟨i, hi, rfl⟩ := List.mem_iff_getElem.mp ht
          refine ⟨i, (hmem i).mpr (by omega), ?_⟩
          rw [List.getD_eq_getElem?_getD, List.getElem?_eq_getElem hi]; rfl
      · rw [List.pairwise_map, List.pairwise_iff_getElem]
        intro i j hi hj hij
        have hsz := hp.size
        rw [Array.length_toList] at hi hj
        have := hsr i j hij (by omega)
        have ei : p.getD i 0 = p.toList[i] := by simp [Array.getD, hi]
        have ej : p.getD j 0 = p.toList[j] := by simp [Array.getD, hj]
        rw [ei, ej] at this
        exact this
  · obtain ⟨x, rfl⟩ : ∃ x, xs = [x] := by
      match xs, h1, h2 with
      | [x], _, _ => exact ⟨x, rfl⟩
      | _ :: _ :: _, _, h2 => exact absurd h2 (by simp)
    obtain ⟨v, rfl⟩ : ∃ v, vs = [v] := by
      match vs, hlen with
      | [v], _ => exact ⟨v, rfl⟩
    refine Calls.call_function_entry kind_sorted plain_sorted entry_sorted (args_sorted1 _) ?_
    unfold Builtin.«sorted»
    refine wpAny_bind (m := checkCount "sorted" 1 1 _) (wpAny_pure ?_)
    refine wpAny_bind (collect_list hL ?_ (by rw [sizeLine_eq]; show 1 ≤ _; decide))
    refine wpAny_bind (wpAny_newList ?_ (by rw [sizeLine_eq]; show 1 ≤ _; decide))
    have hsz : ((s.heap.push (seqObj "list" #[] 0)).update s.heap.objs.size (Obj.mapSeq (· ++ [v].toArray))).objs.size = s.heap.objs.size + 1 := by
      rw [Heap.size_update, size_push']
    have hoL : (((s.heap.push (seqObj "list" #[] 0)).update s.heap.objs.size (Obj.mapSeq (· ++ [v].toArray))).push (seqObj "list" [v].toArray 0)).get? (s.heap.objs.size + 1) = some (seqObj "list" [v].toArray 0) := by
      rw [← hsz]; exact Heap.get?_push_size _ rfl
    have keep : ∀ b o, s.heap.get? b = some o → (((s.heap.push (seqObj "list" #[] 0)).update s.heap.objs.size (Obj.mapSeq (· ++ [v].toArray))).push (seqObj "list" [v].toArray 0)).get? b = some o := fun b o q => by
      have hlt : b < s.heap.objs.size := Heap.lt_size q
      rw [Heap.get?_push_ne _ _ _ (by rw [hsz]; exact Nat.ne_of_lt (Nat.lt_succ_of_lt hlt)), Heap.get?_update_ne _ _ _ _ (Nat.ne_of_lt hlt), Heap.get?_push_ne _ _ _ (Nat.ne_of_lt hlt)]
      exact q
    have hLs : L < s.heap.objs.size := F.ns.lt
    show wpAny _ _ _ _ _ { s with heap := ((s.heap.push (seqObj "list" #[] 0)).update s.heap.objs.size (Obj.mapSeq (· ++ [v].toArray))).push (seqObj "list" [v].toArray 0) }
    rw [hsz]
    refine wpAny_bind (wpAny_holding (wpAny_call_entry slot_list_sort ⟨_, hoL, rfl⟩ entry_list_sort ?body (args_list_sort _)))
    case body =>
      refine sort_one (s := { s with heap := ((s.heap.push (seqObj "list" #[] 0)).update s.heap.objs.size (Obj.mapSeq (· ++ [v].toArray))).push (seqObj "list" [v].toArray 0) })
        (F.kept keep) (N.grown keep) hoL (Nat.ne_of_gt (Nat.lt_succ_of_lt hLs)) (Heap.get?_none_of_le (Nat.le_trans F.above (Nat.le_succ_of_le (Nat.le_of_lt hLs))))
        (fun p hp => Nat.ne_of_lt (Nat.lt_succ_of_lt (Heap.lt_size (N p hp).1))) fun h' c F' N' => ?_
      exact ⟨_, rfl, wpAny_pure ⟨_, rfl, h _ [v] c h' [x] F' N' (fun q hq => Nat.lt_succ_of_lt (Heap.lt_size (N q hq).1)) hv (fun t => Iff.rfl) (List.pairwise_singleton _ _)⟩⟩
end
end Mine
end

section
open PySem PySem.W PyProof.Rows PySem.Calls PySem.Spec
set_option Elab.async false
namespace Mine
theorem walk_start_P4 : True := by w_top off; trivial

/-- one step of the law's reckoning -/
def relax1 (ps : List Int) (e : Nat × Nat × Int) : List Int := ps.set e.2.1 (min (ps.getD e.2.1 0) (ps.getD e.1 0 + e.2.2))
def relax (steps : List (Nat × Nat × Int)) (ps : List Int) : List Int := steps.foldl relax1 ps
def ps0 : List Int := 0 :: List.replicate 6 1000000
def at' (ps : List Int) (k : Nat) : Int := ps.getD k 0

def GoodSteps (steps : List (Nat × Nat × Int)) : Prop := ∀ e ∈ steps, e.1 < 7 ∧ e.2.1 < 7 ∧ 1 ≤ e.2.2

structure PInv (steps : List (Nat × Nat × Int)) (ps : List Int) : Prop where
  len : ps.length = 7
  zero : at' ps 0 = 0
  nn : ∀ k, k < 7 → 0 ≤ at' ps k ∧ at' ps k ≤ 1000000
  ach : ∀ j, j < 7 → at' ps j = 1000000 ∨ j = 0 ∨ ∃ i c, (i, j, c) ∈ steps ∧ at' ps i + c ≤ at' ps j

theorem at_set {ps : List Int} {i j : Nat} {v : Int} (hi : i < ps.length) : at' (ps.set i v) j = if i = j then v else at' ps j := by
  unfold at'
  rw [List.getD_eq_getElem?_getD, List.getD_eq_getElem?_getD, List.getElem?_set]
  by_cases h : i = j
  · subst h; simp [hi]
  · simp [h]
theorem relax1_len (ps : List Int) (e : Nat × Nat × Int) : (relax1 ps e).length = ps.length := by simp [relax1]
theorem relax1_at {ps : List Int} {e : Nat × Nat × Int} (hl : ps.length = 7) (he : e.2.1 < 7) (k : Nat) : at' (relax1 ps e) k = if e.2.1 = k then min (at' ps e.2.1) (at' ps e.1 + e.2.2) else at' ps k := by
  unfold relax1
  rw [at_set (by omega)]
  rfl
theorem relax1_le {ps : List Int} {e : Nat × Nat × Int} (hl : ps.length = 7) (he : e.2.1 < 7) (k : Nat) : at' (relax1 ps e) k ≤ at' ps k := by
  rw [relax1_at hl he]
  split
  · rename_i h; rw [← h]; exact Int.min_le_left _ _
  · exact Int.le_refl _

theorem pinv0 (steps : List (Nat × Nat × Int)) : PInv steps ps0 := by
  refine ⟨rfl, rfl, by decide, fun j hj => ?_⟩
  by_cases h : j = 0
  · exact .inr (.inl h)
  · left
    have : ∀ j, j < 7 → ¬ j = 0 → at' ps0 j = 1000000 := by decide
    exact this j hj h
theorem pinv1 {steps : List (Nat × Nat × Int)} {ps : List Int} {e : Nat × Nat × Int} (hg : GoodSteps steps) (he : e ∈ steps) (h : PInv steps ps) : PInv steps (relax1 ps e) := by
  obtain ⟨h1, h2, h3⟩ := hg e he
  have nn := h.nn
  have hz := h.zero
  refine ⟨by rw [relax1_len, h.len], ?_, fun k hk => ?_, fun j hj => ?_⟩
  · rw [relax1_at h.len h2]
    split
    · rename_i e0
      rw [e0, hz]
      have := (nn e.1 h1).1
      omega
    · exact hz
  · rw [relax1_at h.len h2]
    have a1 := nn k hk
    have a2 := nn e.1 h1
    split
    · rename_i e0
      rw [e0]; omega
    · exact a1
  · have low := fun k => relax1_le (e := e) h.len h2 k
    by_cases e0 : e.2.1 = j
    · by_cases hlt : at' ps e.1 + e.2.2 < at' ps j
      · right; right
        refine ⟨e.1, e.2.2, by rw [← e0]; exact he, ?_⟩
        have b1 := low e.1
        have b2 : at' (relax1 ps e) j = at' ps e.1 + e.2.2 := by rw [relax1_at h.len h2, if_pos e0, e0]; omega
        omega
      · have b2 : at' (relax1 ps e) j = at' ps j := by rw [relax1_at h.len h2, if_pos e0, e0]; omega
        rcases h.ach j hj with h' | h' | ⟨i, c, hm, h'⟩
        · left; omega
        · exact .inr (.inl h')
        · right; right
          exact ⟨i, c, hm, by have := low i; omega⟩
    · have b2 : at' (relax1 ps e) j = at' ps j := by rw [relax1_at h.len h2, if_neg e0]
      rcases h.ach j hj with h' | h' | ⟨i, c, hm, h'⟩
      · left; omega
      · exact .inr (.inl h')
      · right; right
        exact ⟨i, c, hm, by have := low i; omega⟩
theorem relaxs_spec {steps : List (Nat × Nat × Int)} (hg : GoodSteps steps) : ∀ (es : List (Nat × Nat × Int)) (ps : List Int), (∀ e ∈ es, e ∈ steps) → PInv steps ps →
    PInv steps (es.foldl relax1 ps) ∧ (∀ k, at' (es.foldl relax1 ps) k ≤ at' ps k)
  | [], ps, _, h => ⟨h, fun _ => Int.le_refl _⟩
  | e :: es, ps, hs, h => by
    obtain ⟨a1, a2⟩ := relaxs_spec hg es (relax1 ps e) (fun x hx => hs x (.tail _ hx)) (pinv1 hg (hs e (.head _)) h)
    exact ⟨a1, fun k => Int.le_trans (a2 k) (relax1_le h.len (hg e (hs e (.head _))).2.1 k)⟩
theorem eq_of_at {a b : List Int} (ha : a.length = 7) (hb : b.length = 7) (h : ∀ k, k < 7 → at' a k = at' b k) : a = b := by
  apply List.ext_getElem (by omega)
  intro k h1 h2
  have := h k (by omega)
  unfold at' at this
  rw [List.getD_eq_getElem?_getD, List.getD_eq_getElem?_getD, List.getElem?_eq_getElem h1, List.getElem?_eq_getElem h2] at this
  exact this
theorem relaxs_fix {steps : List (Nat × Nat × Int)} (hg : GoodSteps steps) : ∀ (es : List (Nat × Nat × Int)) (ps : List Int), (∀ e ∈ es, e ∈ steps) → PInv steps ps → es.foldl relax1 ps = ps → ∀ e ∈ es, at' ps e.2.1 ≤ at' ps e.1 + e.2.2
  | [], _, _, _, _ => fun _ h => nomatch h
  | e :: es, ps, hs, h, hfix => by
    have he := hs e (.head _)
    obtain ⟨g1, g2, g3⟩ := hg e he
    have h1 := pinv1 hg he h
    obtain ⟨_, a2⟩ := relaxs_spec hg es (relax1 ps e) (fun x hx => hs x (.tail _ hx)) h1
    have hfix' : es.foldl relax1 (relax1 ps e) = ps := hfix
    rw [hfix'] at a2
    have e1 : relax1 ps e = ps := eq_of_at h1.len h.len fun k _ => Int.le_antisymm (relax1_le h.len g2 k) (a2 k)
    intro x hx
    rcases List.mem_cons.mp hx with rfl | hx
    · have := relax1_at (e := x) h.len g2 x.2.1
      rw [e1, if_pos rfl] at this
      omega
    · rw [e1] at hfix'
      exact relaxs_fix hg es ps (fun x hx => hs x (.tail _ hx)) h hfix' x hx
theorem pot_of_fix {steps : List (Nat × Nat × Int)} {ps : List Int} (hg : GoodSteps steps) (h : PInv steps ps) (hfix : relax steps ps = ps) : Pot steps (at' ps) := by
  have hf := relaxs_fix hg steps ps (fun e he => he) h hfix
  refine ⟨h.zero, fun k hk => (h.nn k hk).1, fun i j c hs => hf _ hs, fun j hj hlt => ?_⟩
  rcases h.ach j hj with h' | h' | ⟨i, c, hm, h'⟩
  · omega
  · exact .inl h'
  · exact .inr ⟨i, c, hm, Int.le_antisymm (hf _ hm) h'⟩

/-- the sum of seven prices -/
def sum7 (ps : List Int) : Int := at' ps 0 + at' ps 1 + at' ps 2 + at' ps 3 + at' ps 4 + at' ps 5 + at' ps 6
theorem sum7_lt {a b : List Int} (ha : a.length = 7) (hb : b.length = 7) (hle : ∀ k, at' a k ≤ at' b k) (hne : a ≠ b) : sum7 a < sum7 b := by
  have h0 := hle 0
  have h1 := hle 1
  have h2 := hle 2
  have h3 := hle 3
  have h4 := hle 4
  have h5 := hle 5
  have h6 := hle 6
  unfold sum7
  refine Classical.byContradiction fun hn => hne (eq_of_at ha hb fun k hk => ?_)
  have : k = 0 ∨ k = 1 ∨ k = 2 ∨ k = 3 ∨ k = 4 ∨ k = 5 ∨ k = 6 := by omega
  rcases this with rfl | rfl | rfl | rfl | rfl | rfl | rfl <;> omega

/-- between the rounds -/
def DInv (steps : List (Nat × Nat × Int)) (before ps : List Int) : Prop := PInv steps ps ∧ (before = [] ∨ (PInv steps before ∧ ps = relax steps before))
def dmeas (before : List Int) : Nat := if before = [] then 7000001 else (sum7 before).toNat
theorem dinv0 (steps : List (Nat × Nat × Int)) : DInv steps [] ps0 := ⟨pinv0 steps, .inl rfl⟩
theorem dinv_turn {steps : List (Nat × Nat × Int)} {before ps : List Int} (hg : GoodSteps steps) (h : DInv steps before ps) (hne : before ≠ ps) : DInv steps ps (relax steps ps) ∧ dmeas ps < dmeas before := by
  obtain ⟨h1, h2⟩ := h
  obtain ⟨a1, a2⟩ := relaxs_spec hg steps ps (fun e he => he) h1
  have hps : ps ≠ [] := by intro e; have := h1.len; rw [e] at this; simp at this
  refine ⟨⟨a1, .inr ⟨h1, rfl⟩⟩, ?_⟩
  unfold dmeas
  rw [if_neg hps]
  have n0 := h1.nn 0 (by decide)
  have n1 := h1.nn 1 (by decide)
  have n2 := h1.nn 2 (by decide)
  have n3 := h1.nn 3 (by decide)
  have n4 := h1.nn 4 (by decide)
  have n5 := h1.nn 5 (by decide)
  have n6 := h1.nn 6 (by decide)
  have nn : 0 ≤ sum7 ps ∧ sum7 ps ≤ 7000000 := by unfold sum7; omega
  rcases h2 with h2 | ⟨hb, h2⟩
  · rw [if_pos h2]; omega
  · have hbn : before ≠ [] := by intro e; have := hb.len; rw [e] at this; simp at this
    rw [if_neg hbn]
    obtain ⟨_, b2⟩ := relaxs_spec hg steps before (fun e he => he) hb
    have b2 : ∀ k, at' ps k ≤ at' before k := by rw [h2]; exact b2
    have := sum7_lt h1.len hb.len b2 (Ne.symm hne)
    omega
theorem dinv_end {steps : List (Nat × Nat × Int)} {before ps : List Int} (hg : GoodSteps steps) (h : DInv steps before ps) (he : before = ps) : PInv steps ps ∧ Pot steps (at' ps) := by
  obtain ⟨h1, h2⟩ := h
  refine ⟨h1, ?_⟩
  rcases h2 with h2 | ⟨hb, h2⟩
  · have := h1.len
    rw [← he, h2] at this; simp at this
  · exact pot_of_fix hg h1 (by rw [he] at h2; exact h2.symm)
end Mine
end

section
open PySem PySem.W PyProof.Rows PySem.Calls PySem.Spec
set_option Elab.async false
namespace Mine
theorem walk_start_P5 : True := by w_top off; trivial
/-- what a move adds to the steps -/
def stepAdd (places : List (List Str)) (bars : List Int) (here : Nat) (acc : List (Nat × Nat × Int)) (mv : Str × Int) : List (Nat × Nat × Int) :=
  if goS (places.getD here []) mv.1 ∈ places then
    (if (bars.any (· == ((places.idxOf (goS (places.getD here []) mv.1) : Nat) : Int))) = true then acc else acc ++ [(here, places.idxOf (goS (places.getD here []) mv.1), mv.2)])
  else acc
def stepsFor (places : List (List Str)) (bars : List Int) (moves : List (Str × Int)) (acc : List (Nat × Nat × Int)) (here : Nat) : List (Nat × Nat × Int) := moves.foldl (stepAdd places bars here) acc
def stepsL (places : List (List Str)) (bars : List Int) (moves : List (Str × Int)) : List (Nat × Nat × Int) := (List.range 7).foldl (stepsFor places bars moves) []

section
variable {places : List (List Str)} {bars : List Int}
theorem stepAdd_mem {here : Nat} {acc : List (Nat × Nat × Int)} {mv : Str × Int} {e : Nat × Nat × Int} : e ∈ stepAdd places bars here acc mv ↔ e ∈ acc ∨
    (goS (places.getD here []) mv.1 ∈ places ∧ bars.any (· == ((places.idxOf (goS (places.getD here []) mv.1) : Nat) : Int)) = false ∧ e = (here, places.idxOf (goS (places.getD here []) mv.1), mv.2)) := by
  unfold stepAdd
  split
  · rename_i h
    split
    · rename_i h2
      constructor
      · exact .inl
      · rintro (h' | ⟨_, h', _⟩)
        · exact h'
        · rw [h2] at h'; cases h'
    · rename_i h2
      rw [List.mem_append, List.mem_singleton]
      constructor
      · rintro (h' | h')
        · exact .inl h'
        · exact .inr ⟨h, Bool.eq_false_iff.mpr h2, h'⟩
      · rintro (h' | ⟨_, _, h'⟩)
        · exact .inl h'
        · exact .inr h'
  · rename_i h
    constructor
    · exact .inl
    · rintro (h' | ⟨h', _⟩)
      · exact h'
      · exact absurd h' h
theorem stepsFor_mem {here : Nat} : ∀ (moves : List (Str × Int)) {acc : List (Nat × Nat × Int)} {e : Nat × Nat × Int}, e ∈ stepsFor places bars moves acc here ↔ e ∈ acc ∨ ∃ mv ∈ moves,
    goS (places.getD here []) mv.1 ∈ places ∧ bars.any (· == ((places.idxOf (goS (places.getD here []) mv.1) : Nat) : Int)) = false ∧ e = (here, places.idxOf (goS (places.getD here []) mv.1), mv.2)
  | [], acc, e => ⟨.inl, fun h => h.elim id fun ⟨_, h, _⟩ => nomatch h⟩
  | mv :: moves, acc, e => by
    show e ∈ stepsFor places bars moves (stepAdd places bars here acc mv) here ↔ _
    rw [stepsFor_mem moves, stepAdd_mem]
    constructor
    · rintro ((h | h) | ⟨m, hm, h⟩)
      · exact .inl h
      · exact .inr ⟨mv, .head _, h⟩
      · exact .inr ⟨m, .tail _ hm, h⟩
    · rintro (h | ⟨m, hm, h⟩)
      · exact .inl (.inl h)
      · rcases List.mem_cons.mp hm with rfl | hm
        · exact .inl (.inr h)
        · exact .inr ⟨m, hm, h⟩
theorem steps_mem_aux (moves : List (Str × Int)) : ∀ (ks : List Nat) (acc : List (Nat × Nat × Int)) {e : Nat × Nat × Int}, e ∈ ks.foldl (stepsFor places bars moves) acc ↔ e ∈ acc ∨ ∃ k ∈ ks, ∃ mv ∈ moves,
    goS (places.getD k []) mv.1 ∈ places ∧ bars.any (· == ((places.idxOf (goS (places.getD k []) mv.1) : Nat) : Int)) = false ∧ e = (k, places.idxOf (goS (places.getD k []) mv.1), mv.2)
  | [], acc, e => ⟨.inl, fun h => h.elim id fun ⟨_, h, _⟩ => nomatch h⟩
  | k :: ks, acc, e => by
    rw [List.foldl_cons, steps_mem_aux moves ks, stepsFor_mem]
    constructor
    · rintro ((h | h) | ⟨m, hm, h⟩)
      · exact .inl h
      · exact .inr ⟨k, .head _, h⟩
      · exact .inr ⟨m, .tail _ hm, h⟩
    · rintro (h | ⟨m, hm, h⟩)
      · exact .inl (.inl h)
      · rcases List.mem_cons.mp hm with rfl | hm
        · exact .inl (.inr h)
        · exact .inr ⟨m, hm, h⟩
theorem steps_mem {moves : List (Str × Int)} {i j : Nat} {c : Int} : (i, j, c) ∈ stepsL places bars moves ↔ i < 7 ∧ ∃ mv ∈ moves,
    goS (places.getD i []) mv.1 ∈ places ∧ bars.any (· == ((places.idxOf (goS (places.getD i []) mv.1) : Nat) : Int)) = false ∧ j = places.idxOf (goS (places.getD i []) mv.1) ∧ c = mv.2 := by
  unfold stepsL
  rw [steps_mem_aux]
  constructor
  · rintro (h | ⟨k, hk, mv, hm, h1, h2, h3⟩)
    · exact nomatch h
    · simp only [Prod.mk.injEq] at h3
      obtain ⟨rfl, rfl, rfl⟩ := h3
      exact ⟨List.mem_range.mp hk, mv, hm, h1, h2, rfl, rfl⟩
  · rintro ⟨hi, mv, hm, h1, h2, rfl, rfl⟩
    exact .inr ⟨i, List.mem_range.mpr hi, mv, hm, h1, h2, rfl⟩
theorem steps_good {moves : List (Str × Int)} (h7 : places.length = 7) (hc : ∀ mv ∈ moves, 1 ≤ mv.2) : GoodSteps (stepsL places bars moves) := by
  rintro ⟨i, j, c⟩ he
  obtain ⟨hi, mv, hm, h1, _, rfl, rfl⟩ := steps_mem.mp he
  refine ⟨hi, ?_, hc mv hm⟩
  have := List.idxOf_lt_length_iff.mpr h1
  show List.idxOf _ places < 7
  omega
theorem relaxs_len (es : List (Nat × Nat × Int)) : ∀ ps : List Int, (es.foldl relax1 ps).length = ps.length := by
  induction es with
  | nil => intro ps; rfl
  | cons e es ih => intro ps; rw [List.foldl_cons, ih, relax1_len]
end
end Mine
end

section
open PySem PySem.W PyProof.Rows PySem.Calls PySem.Spec
set_option Elab.async false
set_option maxRecDepth 100000
set_option maxHeartbeats 8000000
set_option pp.deepTerms false
set_option pp.deepTerms.threshold 4
set_option pp.maxSteps 20000
namespace Mine
theorem walk_start_B12 : True := by w_top off; trivial
local macro_rules | `(tactic| k_steps) => `(tactic| repeat' (
  (fail_if_success (with_reducible show wpAny _ _ (PySem.exec (Stmt.While _ _ _ _) _) _ _ _));
  (fail_if_success (with_reducible show wpAny _ _ (PySem.exec (Stmt.For _ _ _ _ _) _) _ _ _));
  (fail_if_success (with_reducible show wpAny _ _ (PySem.call (Value.ref _) _ _) _ _ _));
  (fail_if_success (with_reducible show wpAny _ _ (PySem.call (Value.builtin "list.append") _ _) _ _ _));
  (fail_if_success (with_reducible show wpAny _ _ (PySem.call (Value.builtin "list.pop") _ _) _ _ _));
  (fail_if_success (with_reducible show wpAny _ _ (PySem.call (Value.builtin "list.index") _ _) _ _ _));
  (fail_if_success (with_reducible show wpAny _ _ (PySem.call (Value.builtin "sorted") _ _) _ _ _));
  (fail_if_success (with_reducible show wpAny _ _ (PySem.call (Value.builtin "str.split") _ _) _ _ _));
  (fail_if_success (with_reducible show wpAny _ _ (PySem.call (Value.builtin "str.join") _ _) _ _ _));
  (fail_if_success (with_reducible show wpAny _ _ (compareOp CmpOp.NotEq (Value.ref _) (Value.ref _)) _ _ _));
  (fail_if_success (with_reducible show wpAny _ _ (compareOp CmpOp.In (Value.ref _) (Value.ref _)) _ _ _));
  (fail_if_success (with_reducible show wpAny _ _ (compareOp CmpOp.NotIn (Value.int _ _) (Value.ref _)) _ _ _));
  (fail_if_success (with_reducible show wpAny _ _ (truthy (Value.ref _)) _ _ _));
  (fail_if_success (with_reducible show wpAny _ _ (subscriptTail _ _ (Value.ref _) (Value.int _ _)) _ _ _));
  (fail_if_success (with_reducible show wpAny _ _ (setItem (Value.ref _) (Value.int _ _) _) _ _ _));
  (fail_if_success (with_reducible show wpAny _ _ (eval (PySem.Expr.ListComp _ _ _ _) _) _ _ _));
  (fail_if_success (with_reducible show LCg.CompEnd _ _ _ _ _ _ _ _ _ _ _ _ _ _));
  (fail_if_success (with_reducible show Hold _));
  (first | ((with_reducible show wpAny _ _ (PySem.exec _ _) _ _ _); k_fold) | (k_unfold; (try dsimp only)) | (k_end; kc_close) | walk1 | (dsimp only; walk1) | (leave1; walk_say "STEP leave1"; (try dsimp only)) | fail "no step")))

section
variable {w : World} {p : Program} {loose : List Str} {mean : ExcName → Option Value} {mg mb : Str → Option Value}
  {dp un : Nat} {gd : Option (List Code)} {cn : Str} {cs : Scope} {a : Addr} {ccd : Value} {cl : List (Str × Addr)} {outer : List Env} {A₀ : Around} {base h₀ : Heap} {L : Addr} {m : Str → Option Value} {s : Shared} {Q E : Value → Shared → Prop}
  {news : List (Addr × Obj)}

theorem News.mv4 {h₀ h : Heap} {L : Addr} {a b c d : Addr × Obj} {l : List (Addr × Obj)} (N : News h₀ L h (a :: b :: c :: d :: l)) : News h₀ L h (d :: a :: b :: c :: l) := News.sub N (by
  intro q hq
  simp only [List.mem_cons] at hq ⊢
  rcases hq with h | h | h | h | h
  · exact .inr (.inr (.inr (.inl h)))
  · exact .inl h
  · exact .inr (.inl h)
  · exact .inr (.inr (.inl h))
  · exact .inr (.inr (.inr (.inr h))))

def StepAt (own : List (Addr × Obj)) (v : Value) (e : Nat × Nat × Int) : Prop := ∃ a t u r n, v = .ref a ∧ (a, ({ cls := .type "tuple", data := .seq #[.int (e.1 : Int) t, .int (e.2.1 : Int) u, .int e.2.2 r] n } : Obj)) ∈ own

theorem IntsAre_set : ∀ {vs : List Value} {ns : List Int}, IntsAre vs ns → ∀ (i : Nat) (n : Int) (t : Tok), IntsAre (vs.set i (.int n t)) (ns.set i n)
  | _, _, .nil, _, _, _ => .nil
  | _, _, .cons _ _ h, 0, n, t => .cons n t h
  | _, _, .cons m u h, i + 1, n, t => .cons m u (IntsAre_set h i n t)
theorem IntsAre_getD {vs : List Value} {ns : List Int} (h : IntsAre vs ns) {i : Nat} (hi : i < ns.length) : ∃ t, vs[i]? = some (.int (ns.getD i 0) t) := by
  obtain ⟨t, e⟩ := h.get i ns[i] (List.getElem?_eq_getElem hi)
  refine ⟨t, ?_⟩
  rw [e, List.getD_eq_getElem?_getD, List.getElem?_eq_getElem hi]; rfl

/-- the name of a place -/
def nameOf (places : List (List Str)) (k : Nat) : Str := Str.ofString "/" ++ Txt.join (Str.ofString "/") (places.getD k [])
/-- what the law is to tell of the first i places -/
def itemsTo (places : List (List Str)) (ps : List Int) (i : Nat) : List (Int × Str) := ((List.range i).filter fun k => decide (at' ps k < 1000000)).map fun k => (at' ps k, nameOf places k)
theorem itemsTo_succ (places : List (List Str)) (ps : List Int) (i : Nat) : itemsTo places ps (i + 1) = if at' ps i < 1000000 then itemsTo places ps i ++ [(at' ps i, nameOf places i)] else itemsTo places ps i := by
  unfold itemsTo
  rw [List.range_succ, List.filter_append, List.map_append]
  by_cases h : at' ps i < 1000000
  · simp [h]
  · simp [h]
theorem items_mem {places : List (List Str)} {ps : List Int} {i : Nat} {t : Int × Str} : t ∈ itemsTo places ps i ↔ ∃ k, k < i ∧ t = (at' ps k, nameOf places k) ∧ at' ps k < 1000000 := by
  unfold itemsTo
  rw [List.mem_map]
  constructor
  · rintro ⟨k, hk, rfl⟩
    rw [List.mem_filter, List.mem_range, decide_eq_true_iff] at hk
    exact ⟨k, hk.1, rfl, hk.2⟩
  · rintro ⟨k, hk, rfl, h⟩
    exact ⟨k, by rw [List.mem_filter, List.mem_range, decide_eq_true_iff]; exact ⟨hk, h⟩, rfl⟩
theorem items_nodup {places : List (List Str)} {ps : List Int} (hn : ∀ i, i < 7 → ∀ j, j < 7 → nameOf places i = nameOf places j → i = j) : ∀ i, i ≤ 7 → (itemsTo places ps i).Nodup ∧ (itemsTo places ps i).length ≤ i
  | 0, _ => ⟨.nil, Nat.le_refl _⟩
  | i + 1, hi => by
    obtain ⟨h1, h2⟩ := items_nodup (ps := ps) hn i (by omega)
    rw [itemsTo_succ]
    split
    · refine ⟨?_, by rw [List.length_append, List.length_singleton]; omega⟩
      rw [List.nodup_append]
      refine ⟨h1, by simp, fun a ha c hc e => ?_⟩
      rw [List.mem_singleton] at hc
      subst hc
      subst e
      obtain ⟨k, hk, e, _⟩ := items_mem.mp ha
      have := hn i (by omega) k (by omega) (congrArg Prod.snd e)
      omega
    · exact ⟨h1, by omega⟩

abbrev Led := List (Addr × Obj)
theorem News.sink3 {h₀ h : Heap} {L : Addr} {a b c d : Addr × Obj} {l : List (Addr × Obj)} (N : News h₀ L h (a :: b :: c :: d :: l)) : News h₀ L h (b :: c :: d :: a :: l) := News.mv4 (News.mv4 (News.mv4 N))
theorem News.sink2 {h₀ h : Heap} {L : Addr} {a b c : Addr × Obj} {l : List (Addr × Obj)} (N : News h₀ L h (a :: b :: c :: l)) : News h₀ L h (b :: c :: a :: l) := News.sub N (by
  intro q hq
  simp only [List.mem_cons] at hq ⊢
  rcases hq with h | h | h | h
  · exact .inr (.inl h)
  · exact .inr (.inr (.inl h))
  · exact .inl h
  · exact .inr (.inr (.inr h)))
theorem mem_skip5 {a b c d e : Addr × Obj} {x l : Led} {q : Addr × Obj} (h : q ∈ a :: b :: c :: d :: e :: (x ++ l)) : q ∈ x ++ (a :: b :: c :: d :: e :: l) := by
  simp only [List.mem_cons, List.mem_append] at h ⊢
  rcases h with h | h | h | h | h | h | h
  · exact .inr (.inl h)
  · exact .inr (.inr (.inl h))
  · exact .inr (.inr (.inr (.inl h)))
  · exact .inr (.inr (.inr (.inr (.inl h))))
  · exact .inr (.inr (.inr (.inr (.inr (.inl h)))))
  · exact .inl h
  · exact .inr (.inr (.inr (.inr (.inr (.inr h)))))
theorem mem_pull5 {a b c d e : Addr × Obj} {x l : Led} {q : Addr × Obj} (h : q ∈ x ++ (a :: b :: c :: d :: e :: l)) : q ∈ a :: b :: c :: d :: e :: (x ++ l) := by
  simp only [List.mem_cons, List.mem_append] at h ⊢
  rcases h with h | h | h | h | h | h | h
  · exact .inr (.inr (.inr (.inr (.inr (.inl h)))))
  · exact .inl h
  · exact .inr (.inl h)
  · exact .inr (.inr (.inl h))
  · exact .inr (.inr (.inr (.inl h)))
  · exact .inr (.inr (.inr (.inr (.inl h))))
  · exact .inr (.inr (.inr (.inr (.inr (.inr h)))))
theorem all3 {P : Addr × Obj → Prop} {a b c : Addr × Obj} {l : Led} (ha : P a) (hb : P b) (hc : P c) (hl : ∀ q ∈ l, P q) : ∀ q ∈ a :: b :: c :: l, P q
  | _, .head _ => ha | _, .tail _ (.head _) => hb | _, .tail _ (.tail _ (.head _)) => hc | q, .tail _ (.tail _ (.tail _ h)) => hl q h
theorem all4 {P : Addr × Obj → Prop} {a b c d : Addr × Obj} {l : Led} (ha : P a) (hb : P b) (hc : P c) (hd : P d) (hl : ∀ q ∈ l, P q) : ∀ q ∈ a :: b :: c :: d :: l, P q
  | _, .head _ => ha | q, .tail _ h => all3 hb hc hd hl q h
theorem all5 {P : Addr × Obj → Prop} {a b c d e : Addr × Obj} {l : Led} (ha : P a) (hb : P b) (hc : P c) (hd : P d) (he : P e) (hl : ∀ q ∈ l, P q) : ∀ q ∈ a :: b :: c :: d :: e :: l, P q
  | _, .head _ => ha | q, .tail _ h => all4 hb hc hd he hl q h
theorem all6 {P : Addr × Obj → Prop} {a b c d e f : Addr × Obj} {l : Led} (ha : P a) (hb : P b) (hc : P c) (hd : P d) (he : P e) (hf : P f) (hl : ∀ q ∈ l, P q) : ∀ q ∈ a :: b :: c :: d :: e :: f :: l, P q
  | _, .head _ => ha | q, .tail _ h => all5 hb hc hd he hf hl q h
theorem mem_sink6 {a b c d e f g : Addr × Obj} {l : Led} : ∀ q ∈ b :: c :: d :: e :: f :: g :: a :: l, q ∈ a :: b :: c :: d :: e :: f :: g :: l :=
  all6 (.tail _ (.head _)) (.tail _ (.tail _ (.head _))) (.tail _ (.tail _ (.tail _ (.head _)))) (.tail _ (.tail _ (.tail _ (.tail _ (.head _))))) (.tail _ (.tail _ (.tail _ (.tail _ (.tail _ (.head _)))))) (.tail _ (.tail _ (.tail _ (.tail _ (.tail _ (.tail _ (.head _)))))))
    fun q h => (List.mem_cons.mp h).elim (fun e => e ▸ .head _) fun h => .tail _ (.tail _ (.tail _ (.tail _ (.tail _ (.tail _ (.tail _ h))))))
theorem mem_ap2 {a b c d e f : Addr × Obj} {l : Led} : ∀ q ∈ e :: a :: c :: d :: f :: b :: l, q ∈ a :: b :: c :: d :: e :: f :: l :=
  all6 (.tail _ (.tail _ (.tail _ (.tail _ (.head _))))) (.head _) (.tail _ (.tail _ (.head _))) (.tail _ (.tail _ (.tail _ (.head _)))) (.tail _ (.tail _ (.tail _ (.tail _ (.tail _ (.head _)))))) (.tail _ (.head _))
    fun q h => .tail _ (.tail _ (.tail _ (.tail _ (.tail _ (.tail _ h)))))
theorem mem_w1 {a b c d : Addr × Obj} {l : Led} : ∀ q ∈ c :: b :: d :: a :: l, q ∈ a :: b :: c :: d :: l :=
  all4 (.tail _ (.tail _ (.head _))) (.tail _ (.head _)) (.tail _ (.tail _ (.tail _ (.head _)))) (.head _) fun q h => .tail _ (.tail _ (.tail _ (.tail _ h)))
theorem mem_n32 {a b c d e f g : Addr × Obj} {l : Led} : ∀ q ∈ f :: a :: g :: e :: l, q ∈ a :: b :: c :: d :: e :: f :: g :: l :=
  all4 (.tail _ (.tail _ (.tail _ (.tail _ (.tail _ (.head _)))))) (.head _) (.tail _ (.tail _ (.tail _ (.tail _ (.tail _ (.tail _ (.head _))))))) (.tail _ (.tail _ (.tail _ (.tail _ (.head _))))) fun q h => .tail _ (.tail _ (.tail _ (.tail _ (.tail _ (.tail _ (.tail _ h))))))
inductive DuJ1 (news : Led) (places : List (List Str)) (bars : List Int) (moves : List (Str × Int)) (st mv bd c2 c1 : Addr) (oP oL : Obj) (i : Nat) (m1 : Str → Option Value) (news1 : Led) : Prop where
  | mk (svs : List Value) (sn : Nat) (sts : List (Nat × Nat × Int)) (own : Led) : news1 = (st, listOf svs.toArray sn) :: (c2, oP) :: (c1, oL) :: own → Has m1 [(Str.ofString "steps", .ref st), (Str.ofString "moves", .ref mv), (Str.ofString "barred", .ref bd)] →
      All2 (StepAt own) svs sts → (∀ q ∈ news, q ∈ own) → (∀ q ∈ own, q.1 ≠ st ∧ q.1 ≠ c2 ∧ q.1 ≠ c1) → sts.length ≤ 100 * i → sts = (List.range i).foldl (stepsFor places bars moves) [] → DuJ1 news places bars moves st mv bd c2 c1 oP oL i m1 news1
inductive DuJ2 (news : Led) (places : List (List Str)) (bars : List Int) (moves : List (Str × Int)) (st mv bd c2 c1 : Addr) (oP oL : Obj) (I : Addr) (o : Obj) (i : Nat) (t : Tok) (sts : List (Nat × Nat × Int)) (j : Nat) (m1 : Str → Option Value) (news1 : Led) : Prop where
  | mk (svs2 : List Value) (sn2 : Nat) (sts2 : List (Nat × Nat × Int)) (own2 : Led) : news1 = (st, listOf svs2.toArray sn2) :: (c2, oP) :: (c1, oL) :: (I, o) :: own2 →
      Has m1 [(Str.ofString "steps", .ref st), (Str.ofString "moves", .ref mv), (Str.ofString "barred", .ref bd), (Str.ofString "here", .int (i : Int) t)] →
      All2 (StepAt own2) svs2 sts2 → (∀ q ∈ news, q ∈ own2) → (∀ q ∈ own2, q.1 ≠ st ∧ q.1 ≠ c2 ∧ q.1 ≠ c1 ∧ q.1 ≠ I) → sts2.length ≤ 100 * i + j → sts2 = (moves.take j).foldl (stepAdd places bars i) sts → DuJ2 news places bars moves st mv bd c2 c1 oP oL I o i t sts j m1 news1
inductive DuPost (g' : Heap) (L' : Addr) (gs : Array GenState) (dr : Drawn) (os : OsState) (news : Led) (D31 c2 c1 : Addr) (oP2 oL : Obj) (sts : List (Nat × Nat × Int)) (f : Flow) (s2 : Shared) : Prop where
  | mk : f = .next → ∀ (h2 : Heap) (tk2 : Tok) (m2 : Str → Option Value) (pvs2 : List Value) (pn2 : Nat) (ps : List Int) (own5 : Led), s2 = ⟨h2, gs, dr, tk2, os⟩ → Fr g' L' h2 m2 → News g' L' h2 ((D31, listOf pvs2.toArray pn2) :: (c2, oP2) :: (c1, oL) :: own5) →
      IntsAre pvs2 ps → PInv sts ps → Pot sts (at' ps) → (∀ q ∈ news, q ∈ own5) → (∀ q ∈ own5, q.1 ≠ D31 ∧ q.1 ≠ c2 ∧ q.1 ≠ c1) → DuPost g' L' gs dr os news D31 c2 c1 oP2 oL sts f s2
inductive DuW (own4 : Led) (D31 c2 c1 st : Addr) (oP2 oL : Obj) (sts : List (Nat × Nat × Int)) (nn : Nat) (m1 : Str → Option Value) (news1 : Led) : Prop where
  | mk (bf : Addr) (bvs2 : List Value) (bn2 : Nat) (bfs : List Int) (pvs2 : List Value) (pn2 : Nat) (ps : List Int) (own5 : Led) : nn = dmeas bfs → news1 = (D31, listOf pvs2.toArray pn2) :: (c2, oP2) :: (c1, oL) :: own5 → Has m1 [(Str.ofString "before", .ref bf), (Str.ofString "steps", .ref st)] →
      (bf, listOf bvs2.toArray bn2) ∈ own5 → IntsAre bvs2 bfs → IntsAre pvs2 ps → DInv sts bfs ps → (∀ q ∈ own4, q ∈ own5) → (∀ q ∈ own5, q.1 ≠ D31 ∧ q.1 ≠ c2 ∧ q.1 ≠ c1) → DuW own4 D31 c2 c1 st oP2 oL sts nn m1 news1
inductive DuJ3 (D31 c2 c1 D42 st : Addr) (oP2 oL : Obj) (pvs2 : List Value) (c42 : Nat) (own5 : Led) (sts : List (Nat × Nat × Int)) (ps : List Int) (i : Nat) (m1 : Str → Option Value) (news1 : Led) : Prop where
  | mk (pvs3 : List Value) (pn3 : Nat) : news1 = (D31, listOf pvs3.toArray pn3) :: (c2, oP2) :: (c1, oL) :: (D42, listOf pvs2.toArray c42) :: own5 → Has m1 [(Str.ofString "before", .ref D42), (Str.ofString "steps", .ref st)] →
      IntsAre pvs3 ((sts.take i).foldl relax1 ps) → DuJ3 D31 c2 c1 D42 st oP2 oL pvs2 c42 own5 sts ps i m1 news1
inductive DuC (D31 c2 c1 : Addr) (oP2 oL : Obj) (pvs : List Value) (pn : Nat) (own6 : Led) (places : List (List Str)) (ps : List Int) (i : Nat) (ys : List Value) (news1 : Led) : Prop where
  | mk (its : List (Int × Str)) (own7 : Led) : news1 = (D31, listOf pvs.toArray pn) :: (c2, oP2) :: (c1, oL) :: own7 → All2 (ItemAt own7) ys its → (∀ q ∈ own6, q ∈ own7) → its = itemsTo places ps i → DuC D31 c2 c1 oP2 oL pvs pn own6 places ps i ys news1
theorem due_walk {mv pl bd : Addr} {mvs pvs bvs : List Value} {mn pn bn : Nat} {moves : List (Str × Int)} {places : List (List Str)} {bars : List Int}
    (B : Below A₀ base outer h₀) (F : Fr h₀ L s.heap m) (X : (hd.heap_39 w.params).In h₀) (N : News h₀ L s.heap news) (T : Top p loose mean mg mb h₀) (hk : cs.kind = .function)
    (hr : dp + 60 < recursionLimit) (hu : un + 480 < cLine)
    (hmv : (mv, listOf mvs.toArray mn) ∈ news) (hmoves : All2 (MoveAt news) mvs moves) (hml : moves.length < 100) (hmc : ∀ mv ∈ moves, 1 ≤ mv.2)
    (hpl : (pl, listOf pvs.toArray pn) ∈ news) (hplaces : All2 (ListAt news) pvs places) (hp7 : places.length = 7) (hpo : ∀ ns ∈ places, OkS ns ∧ ns.length < 100 ∧ (ns.map (·.length)).sum < 1000) (hjl : ∀ k, k < 7 → (Txt.join (Str.ofString "/") (places.getD k [])).length < 1000) (hnames : ∀ i, i < 7 → ∀ j, j < 7 → nameOf places i = nameOf places j → i = j)
    (hbd : (bd, listOf bvs.toArray bn) ∈ news) (hbars : IntsAre bvs bars)
    (hw : ∀ mv ∈ moves, mv.1.length < 1000 ∧ 0 < mv.1.length ∧ (Txt.split mv.1 (Str.ofString "/")).length < 100 ∧ (∀ c ∈ Txt.split mv.1 (Str.ofString "/"), c.length < 1000) ∧ ∀ k, k < 7 → OkS (goS (places.getD k []) mv.1))
    (ret : ∀ D vs' n' own res P h' tk', PInv (stepsL places bars moves) P → Pot (stepsL places bars moves) (at' P) → All2 (ItemAt own) vs' res → (∀ t, t ∈ res ↔ ∃ k, k < 7 ∧ t = (at' P k, nameOf places k) ∧ at' P k < 1000000) → res.Pairwise (fun a b => ltP a b = true) → (∀ q ∈ news, q ∈ own) → Fr h₀ L h' m → News h₀ L h' ((D, listOf vs'.toArray n') :: own) → Q (.ref D) { s with heap := h', toks := tk' }) :
    wpAny (model Challenge.rw_pd0167_01.row.prog w) (ktrTop dp un gd cn cs L a ccd cl outer) (call (.ref 215) [.ref mv, .ref pl, .ref bd]) Q E s := by
  revert X; k_fill; intro X
  refine wpAny_call ?_
  k_dflt (refine' code_defC ?k1 ?k2 ?k3 ?k4 ?k5 ?kA ?kF ?kK ?k6 ?k7 ?k8 ?k9 ?kB ?kD ?_ ?c2 ?c3 ?c4; (case kA => exact rfl); (case kF => exact rfl); (case kK => assumption); (case k1 => k_asm); (case k2 => k_asm); (case k3 => k_asm); (case k4 => k_asm); (case k5 => k_asm); (case k6 => k_is); (case k7 => k_is); (case k8 => ktr_room); (case k9 => exact BindsTo.of_eq rfl); (case kB => exact rfl); (case kD => decide +kernel); (case c2 => exact rfl); (case c3 => exact rfl); (case c4 => exact rfl); k_whole; intro g' L' h' tk' cells' FG' F' N' Y' B' X' T' l1; (try k_lt l1); k_cells Y'; (try simp only [List.cons_append, List.nil_append] at N'); (try dsimp only); (try k_lift B'); (try k_fold))
  rename_i oP oL dP dL
  have dL' : oL.data = .cell (some (.ref pl)) := dL
  have dP' : oP.data = .cell none := dP
  clear dL dP
  k_steps
  rename_i st h5 lst h6 F6 N6
  refine wpAny_noRaise (for_loop (h₀ := g') ?_)
  k_steps
  rename_i hR F7 N7 _
  try clear F6
  try clear N6
  refine iter_range (n := 7) (DuJ1 news places bars moves st mv bd (L' + 1 + 1) (L' + 1) oP oL) rfl F7 N7 hR (by decide) (by decide)
      ⟨[], 0, [], news, rfl, ⟨rfl, rfl, rfl, trivial⟩, .nil, fun q hq => hq, ?adr, by simp, rfl⟩ ?turn ?done
  case adr =>
    intro q hq
    have := l1 q hq
    exact ⟨Nat.ne_of_lt (allLt_mem lst.2.2 q hq), Nat.ne_of_lt (Nat.lt_of_lt_of_le this (by omega)), Nat.ne_of_lt (Nat.lt_succ_of_lt this)⟩
  case turn =>
    rintro i t m1 news1 h8 tk8 I o hi ⟨svs, sn, sts, own, rfl, hm1, hst, hown, hadr, hlen, hsts⟩ hoff F8 N8
    have F9 := Fr.know F8 hm1
    have N9 : News g' L' h8 ((st, listOf svs.toArray sn) :: (L' + 1 + 1, oP) :: (L' + 1, oL) :: (I, o) :: own) := News.sink3 N8
    try clear F8
    try clear N8
    try clear F7
    try clear N7
    try clear hR
    k_steps
    rename_i h10 F10 N10
    refine wpAny_noRaise (for_loop (h₀ := g') ?_)
    k_steps
    refine iter_list (l := mv) (vs := mvs) (k := mn) (DuJ2 news places bars moves st mv bd (L' + 1 + 1) (L' + 1) oP oL I o i t sts) rfl F10 N10
      (.tail _ (.tail _ (.tail _ (.tail _ (hown _ hmv))))) ⟨svs, sn, sts, own, rfl, ⟨rfl, rfl, rfl, rfl, trivial⟩, hst, hown, ?adr2, by omega, rfl⟩
      (by rintro j m1 news1 ⟨svs2, sn2, sts2, own2, rfl, _, _, hsub, _⟩; exact .tail _ (.tail _ (.tail _ (.tail _ (hsub _ hmv))))) ?turn2 ?done2
    case adr2 =>
      intro q hq
      obtain ⟨a1, a2, a3⟩ := hadr q hq
      exact ⟨a1, a2, a3, hoff q (.tail _ (.tail _ (.tail _ hq)))⟩
    case turn2 =>
      rintro j v m1 news1 h11 tk11 I2 o2 hv ⟨svs2, sn2, sts2, own2, rfl, hm2, hst2, hsub2, hadr2, hlen2, hsts2⟩ hoff2 F11 N11
      have hmi : j < moves.length := by have := hmoves.length; have := (List.getElem?_eq_some_iff.mp hv).1; omega
      obtain ⟨v', hv', hMv⟩ := hmoves.get j (Str.empty, 0) hmi
      obtain rfl : v = v' := by rw [hv] at hv'; exact Option.some.inj hv'
      have hwm := hw _ (by rw [List.getD_eq_getElem?_getD, List.getElem?_eq_getElem hmi]; exact List.getElem_mem _ : moves.getD j (Str.empty, 0) ∈ moves)
      have hstep : (moves.take (j + 1)).foldl (stepAdd places bars i) sts = stepAdd places bars i sts2 (moves.getD j (Str.empty, 0)) := by
        rw [hsts2]; exact foldl_take_succ _ _ _ _ _ hmi
      generalize moves.getD j (Str.empty, 0) = mvi at *
      obtain ⟨word, more⟩ := mvi
      obtain ⟨aM, tw, tm, nM, rfl, hmM⟩ := hMv
      have F12 := Fr.know F11 hm2
      have N12 : News g' L' h11 ((st, listOf svs2.toArray sn2) :: (L' + 1 + 1, oP) :: (L' + 1, oL) :: (I2, o2) :: (I, o) :: own2) := News.sink3 N11
      have hTM : IsTup h11 aM #[.str word tw, .int more tm] := ⟨_, (N12 _ (.tail _ (.tail _ (.tail _ (.tail _ (.tail _ (hsub2 _ hmM))))))).1, rfl, nM, rfl⟩
      try clear F11
      try clear N11
      try clear F10
      try clear N10
      try clear N9
      try clear F9
      obtain ⟨vpl, hvpl, hPl⟩ := hplaces.get i [] (by rw [hp7]; exact hi)
      have hpo1 := hpo _ (by rw [List.getD_eq_getElem?_getD, List.getElem?_eq_getElem (by rw [hp7]; exact hi)]; exact List.getElem_mem _ : places.getD i [] ∈ places)
      k_steps
      rename_i h12 h13 F13 N13
      obtain ⟨aP, vsP, nP, rfl, hmP, hallP⟩ := hPl
      refine sub_memI (k := i) N13 (.tail _ (.tail _ (.tail _ (.tail _ (.tail _ (hsub2 _ hpl)))))) rfl hvpl (by have := hplaces.length; omega) ?_
      k_steps
      k_dflt (refine go_walk (nl := aP) (nvs := vsP) (nn := nP) (ns := places.getD i []) (by assumption) F13 (by assumption) N13 (by assumption) rfl (by ktr_room) (by ktr_units) hwm.1 hwm.2.1 (.tail _ (.tail _ (.tail _ (.tail _ (.tail _ (hsub2 _ hmP)))))) hallP hpo1.2.1 hwm.2.2.1 hwm.2.2.2.1 ?_)
      intro D dvs dn own20 h20 tk20 hgr hD hallD F20 N20
      obtain ⟨ext, rfl, hext⟩ := hgr
      have hok := hwm.2.2.2.2 i hi
      have hst1 : stepAdd places bars i sts2 (word, more) = if goS (places.getD i []) word ∈ places then (if (bars.any (· == ((places.idxOf (goS (places.getD i []) word) : Nat) : Int))) = true then sts2 else sts2 ++ [(i, places.idxOf (goS (places.getD i []) word), more)]) else sts2 := rfl
      rw [hst1] at hstep
      clear hst1 hwm
      generalize goS (places.getD i []) word = dst at *
      have N21 : News g' L' h20 ((st, listOf svs2.toArray sn2) :: (L' + 1 + 1, oP) :: (L' + 1, oL) :: (I2, o2) :: (I, o) :: (ext ++ own2)) := News.sub N20 fun q hq => mem_skip5 hq
      have hDl : ListAt ((st, listOf svs2.toArray sn2) :: (L' + 1 + 1, oP) :: (L' + 1, oL) :: (I2, o2) :: (I, o) :: (ext ++ own2)) (.ref D) dst := ⟨D, dvs, dn, rfl, mem_pull5 hD, hallD⟩
      have hsub3 : ∀ q ∈ news, q ∈ (st, listOf svs2.toArray sn2) :: (L' + 1 + 1, oP) :: (L' + 1, oL) :: (I2, o2) :: (I, o) :: (ext ++ own2) := fun q hq => .tail _ (.tail _ (.tail _ (.tail _ (.tail _ (List.mem_append_right _ (hsub2 q hq))))))
      have hplaces3 : All2 (ListAt ((st, listOf svs2.toArray sn2) :: (L' + 1 + 1, oP) :: (L' + 1, oL) :: (I2, o2) :: (I, o) :: (ext ++ own2))) pvs places := hplaces.imp fun _ _ h => h.up hsub3
      have hst3 : All2 (StepAt (ext ++ own2)) svs2 sts2 := hst2.imp fun _ _ ⟨a, t, u, r, n, e, hm⟩ => ⟨a, t, u, r, n, e, List.mem_append_right _ hm⟩
      have hsub4 : ∀ q ∈ news, q ∈ ext ++ own2 := fun q hq => List.mem_append_right _ (hsub2 q hq)
      have hadr4 : ∀ q ∈ ext ++ own2, q.1 ≠ st ∧ q.1 ≠ L' + 1 + 1 ∧ q.1 ≠ L' + 1 ∧ q.1 ≠ I ∧ q.1 ≠ I2 := by
        intro q hq
        rcases List.mem_append.mp hq with h | h
        · have hx := hext q h
          exact ⟨Nat.ne_of_gt (hx _ (.head _)), Nat.ne_of_gt (hx _ (.tail _ (.head _))), Nat.ne_of_gt (hx _ (.tail _ (.tail _ (.head _)))), Nat.ne_of_gt (hx _ (.tail _ (.tail _ (.tail _ (.tail _ (.head _)))))), Nat.ne_of_gt (hx _ (.tail _ (.tail _ (.tail _ (.head _)))))⟩
        · obtain ⟨a1, a2, a3, a4⟩ := hadr2 q h
          exact ⟨a1, a2, a3, a4, hoff2 q (.tail _ (.tail _ (.tail _ (.tail _ h))))⟩
      try clear N20
      clear hD hext
      try clear F13
      try clear N13
      generalize ext ++ own2 = own3 at *
      have hoff5 : ∀ (own5 : List (Addr × Obj)) (ob : Obj), (∀ q ∈ own5, q.1 ≠ st ∧ q.1 ≠ L' + 1 + 1 ∧ q.1 ≠ L' + 1 ∧ q.1 ≠ I ∧ q.1 ≠ I2) → ∀ q ∈ (st, ob) :: (L' + 1 + 1, oP) :: (L' + 1, oL) :: (I, o) :: own5, q.1 ≠ I2 := fun own5 ob hh => all4 (hoff2 (st, listOf svs2.toArray sn2) (.head _)) (hoff2 _ (.tail _ (.head _))) (hoff2 _ (.tail _ (.tail _ (.head _)))) (hoff2 _ (.tail _ (.tail _ (.tail _ (.head _))))) fun q hq => (hh q hq).2.2.2.2
      k_steps
      rename_i h21 F21 N22
      refine in_lists N22 (hsub3 _ hpl) hplaces3 hDl (fun ns h => (hpo ns h).1) hok (by show un + 3 + 10 < cLine; omega) ?_
      k_steps
      · rename_i hin
        have hin' : dst ∈ places := hin
        rw [if_pos hin'] at hstep
        k_dflt (refine kf_method N22 (hsub3 _ hpl) PySem.F.slot_list_index PySem.F.type_list_index ?_)
        k_steps
        refine index_lists N22 (hsub3 _ hpl) hplaces3 hDl (fun ns h => (hpo ns h).1) hok (by show un + 3 + 20 < cLine; omega) hin' (by omega) ?_
        k_steps
        refine notin_list_ints (PySem.IsL.isList (N22 _ (hsub3 _ hbd)).1) hbars ?_
        k_steps
        · rename_i hb
          rw [if_pos hb] at hstep
          dsimp only [ForEnd]
          exact ⟨_, _, _, _, rfl, F21, News.mv4 N22, hoff5 own3 _ hadr4, _, _, _, own3, rfl, ⟨rfl, rfl, rfl, rfl, trivial⟩, hst3, hsub4, fun q hq => ⟨(hadr4 q hq).1, (hadr4 q hq).2.1, (hadr4 q hq).2.2.1, (hadr4 q hq).2.2.2.1⟩, by omega, hstep.symm⟩
        · rename_i hb
          rw [if_neg (by rw [hb]; exact Bool.false_ne_true)] at hstep
          k_dflt (refine kf_method N22 (hsub3 _ hpl) PySem.F.slot_list_index PySem.F.type_list_index ?_)
          k_steps
          refine index_lists N22 (hsub3 _ hpl) hplaces3 hDl (fun ns h => (hpo ns h).1) hok (by show un + 3 + 20 < cLine; omega) hin' (by omega) ?_
          k_steps
          rename_i D9 h22 F22 N23 l9
          obtain ⟨ot, hot, N24⟩ : ∃ ot : Obj, (∃ ta tb tc nn, ot = { cls := .type "tuple", data := .seq #[.int (i : Int) ta, .int ((places.idxOf dst : Nat) : Int) tb, .int more tc] nn }) ∧ News g' L' h22 ((D9, ot) :: (st, listOf svs2.toArray sn2) :: (L' + 1 + 1, oP) :: (L' + 1, oL) :: (I2, o2) :: (I, o) :: own3) := ⟨_, ⟨_, _, _, _, rfl⟩, N23⟩
          clear N23
          refine append_head F22 (News.swap N24) ?ap1 (by have := hst3.length; omega) ?_
          case ap1 => exact all5 (Nat.ne_of_gt l9.1) (Nat.ne_of_lt lst.1) (Nat.ne_of_lt lst.2.1) (fun e => hoff2 (st, listOf svs2.toArray sn2) (.head _) e.symm) (fun e => hoff (st, listOf svs.toArray sn) (.head _) e.symm) fun q hq => (hadr4 q hq).1
          intro h23 F23 N25
          clear F22 N24
          k_steps
          have hadr6 : ∀ q ∈ (D9, ot) :: own3, q.1 ≠ st ∧ q.1 ≠ L' + 1 + 1 ∧ q.1 ≠ L' + 1 ∧ q.1 ≠ I ∧ q.1 ≠ I2 := by
            intro q hq
            rcases List.mem_cons.mp hq with rfl | hq
            · exact ⟨Nat.ne_of_gt l9.1, Nat.ne_of_gt l9.2.1, Nat.ne_of_gt l9.2.2.1, Nat.ne_of_gt l9.2.2.2.2.1, Nat.ne_of_gt l9.2.2.2.1⟩
            · exact hadr4 q hq
          dsimp only [ForEnd]
          refine ⟨_, _, _, (st, listOf (svs2 ++ [Value.ref D9]).toArray (sn2 + 1)) :: (L' + 1 + 1, oP) :: (L' + 1, oL) :: (I, o) :: (D9, ot) :: own3, rfl, F23, News.sub N25 ?ap2, hoff5 ((D9, ot) :: own3) _ hadr6, _, _, _, (D9, ot) :: own3, rfl, ⟨rfl, rfl, rfl, rfl, trivial⟩,
            (hst3.imp fun _ _ ⟨a, t, u, r, n, e, hm⟩ => ⟨a, t, u, r, n, e, .tail _ hm⟩ : All2 (StepAt ((D9, ot) :: own3)) svs2 sts2).snoc ?ap3, fun q hq => .tail _ (hsub4 q hq), fun q hq => ⟨(hadr6 q hq).1, (hadr6 q hq).2.1, (hadr6 q hq).2.2.1, (hadr6 q hq).2.2.2.1⟩, ?ap4, hstep.symm⟩
          case ap2 => exact mem_ap2
          case ap3 =>
            obtain ⟨ta, tb, tc, nn, rfl⟩ := hot
            exact ⟨D9, ta, tb, tc, nn, rfl, .head _⟩
          case ap4 =>
            rw [List.length_append, List.length_singleton]; omega
      · rename_i hin
        have hin' : ¬ dst ∈ places := hin
        rw [if_neg hin'] at hstep
        dsimp only [ForEnd]
        exact ⟨_, _, _, _, rfl, F21, News.mv4 N22, hoff5 own3 _ hadr4, _, _, _, own3, rfl, ⟨rfl, rfl, rfl, rfl, trivial⟩, hst3, hsub4, fun q hq => ⟨(hadr4 q hq).1, (hadr4 q hq).2.1, (hadr4 q hq).2.2.1, (hadr4 q hq).2.2.2.1⟩, by omega, hstep.symm⟩
    case done2 =>
      rintro m1 news1 h24 tk24 ⟨svs2, sn2, sts2, own2, rfl, hm2, hst2, hsub2, hadr2, hlen2, hsts2⟩ F24 N24
      rw [hmoves.length, List.take_length] at hsts2
      have hml2 := hmoves.length
      have F25 := Fr.know F24 hm2
      try clear F24
      k_steps
      dsimp only [ForEnd]
      refine ⟨_, _, _, (st, listOf svs2.toArray sn2) :: (L' + 1 + 1, oP) :: (L' + 1, oL) :: own2, rfl, F25, News.mv4 N24, ?_, svs2, sn2, sts2, own2, rfl, ⟨rfl, rfl, rfl, trivial⟩, hst2, hsub2, fun q hq => ⟨(hadr2 q hq).1, (hadr2 q hq).2.1, (hadr2 q hq).2.2.1⟩, by omega, ?_⟩
      · exact all3 (hoff (st, listOf svs.toArray sn) (.head _)) (hoff _ (.tail _ (.head _))) (hoff _ (.tail _ (.tail _ (.head _)))) fun q hq => (hadr2 q hq).2.2.2
      · rw [List.range_succ, List.foldl_append, ← hsts, hsts2]; rfl
  case done =>
    rintro m1 news1 h30 tk30 ⟨svs, sn, sts, own, rfl, hm1, hst, hown, hadr, hlen, hsts⟩ F30 N30
    have hsts' : sts = stepsL places bars moves := hsts
    have F31 := Fr.know F30 hm1
    try clear F30
    try clear F7
    try clear N7
    try clear hR
    k_steps
    rename_i D31 h31 F31' N31 l31
    obtain ⟨pvs0, hpvs0, N32⟩ : ∃ pvs0 : List Value, IntsAre pvs0 ps0 ∧ News g' L' h31 ((L' + 1 + 1, oP) :: (D31, listOf pvs0.toArray 0) :: (L' + 1, oL) :: (st, listOf svs.toArray sn) :: own) :=
      ⟨_, .cons _ _ (.cons _ _ (.cons _ _ (.cons _ _ (.cons _ _ (.cons _ _ (.cons _ _ .nil)))))), News.sub N31 mem_n32⟩
    try clear N31
    have lPL : L' + 1 + 1 ≠ L' + 1 := Nat.succ_ne_self _
    refine storeX_C (v₀ := none) F31' N32 (by rfl) (.head ?sx) dP' ?_
    case sx => exact all3 (Nat.ne_of_gt l31.2.2.2.2.1) lPL.symm (Nat.ne_of_gt lst.1) fun q hq => (hadr q hq).2.1
    intro h33 oP2 F33 N33 dP2
    try clear F31'
    try clear N32
    k_steps
    rename_i D34 h34' l34 h34 F34 N34
    have hgs : GoodSteps sts := by rw [hsts']; exact steps_good hp7 hmc
    have hown4 : ∀ q ∈ (st, listOf svs.toArray sn) :: own, q.1 ≠ D31 ∧ q.1 ≠ L' + 1 + 1 ∧ q.1 ≠ L' + 1 := by
      intro q hq
      rcases List.mem_cons.mp hq with rfl | hq
      · exact ⟨Nat.ne_of_lt l31.2.2.2.1, Nat.ne_of_gt lst.1, Nat.ne_of_gt lst.2.1⟩
      · exact ⟨Nat.ne_of_lt (allLt_mem l31.2.2.2.2.2.2 q hq), (hadr q hq).2⟩
    have hstm : (st, listOf svs.toArray sn) ∈ (st, listOf svs.toArray sn) :: own := .head _
    have hst4 : All2 (StepAt ((st, listOf svs.toArray sn) :: own)) svs sts := hst.imp fun _ _ ⟨a, t, u, r, n, e, hm⟩ => ⟨a, t, u, r, n, e, .tail _ hm⟩
    have hno4 : ∀ q ∈ news, q ∈ (st, listOf svs.toArray sn) :: own := fun q hq => .tail _ (hown q hq)
    generalize (st, listOf svs.toArray sn) :: own = own4 at *
    refine wpAny_mono (Q := DuPost g' L' s.gens s.drawn s.os news D31 (L' + 1 + 1) (L' + 1) oP2 oL sts) ?loop ?after (fun _ _ h => h)
    case after =>
      rintro f s2 ⟨rfl, h60, tk60, m60, pvs, pn, ps, own6, rfl, F60, N60, hpi, hpv, hpot, hno6, hadr6⟩
      try clear F34
      try clear N34
      k_steps
      k_dflt (refine LCt.ListComp_T (F₀ := F60) (by with_unfolding_all rfl) (by decide) (by rfl) (by decide) (by rfl) ?_)
      k_steps
      rename_i hR61 F61 N61 _
      refine LCt.CompSrcT.range (n := 7) rfl F61 N61 hR61 (by decide) (by decide) (by rw [sizeLine_eq]; decide) ?_
      intro g7
      refine comp_invT (DuC D31 (L' + 1 + 1) (L' + 1) oP2 oL pvs pn own6 places ps) 7 ?ct ?cd 7 0 [] _ rfl ⟨[], own6, rfl, .nil, fun q hq => hq, rfl⟩
      case ct =>
        rintro i ys news1 v' I' oI' C' oC' D' m' h' tk' E' hi ⟨its, own7, rfl, hall, hsub7, hits⟩ ⟨t, rfl⟩ hC' hx' F' N' off' ne'
        have e0 : (0 : Int) + (i : Int) = (i : Int) := by omega
        rw [e0] at hx'
        try clear F61
        try clear N61
        k_steps
        obtain ⟨t1, e1⟩ := IntsAre_getD hpi (i := i) (by rw [hpv.len]; exact hi)
        refine sub_memI (k := i) N' (.tail _ (.tail _ (.tail _ (.head _)))) rfl e1 (by have := hpi.length; have := hpv.len; omega) ?_
        k_steps
        · rename_i hlt _
          refine sub_memI (k := i) N' (.tail _ (.tail _ (.tail _ (.head _)))) rfl e1 (by have := hpi.length; have := hpv.len; omega) ?_
          k_steps
          obtain ⟨vpl, hvpl, hPl⟩ := hplaces.get i [] (by rw [hp7]; exact hi)
          have hpo1 := hpo _ (by rw [List.getD_eq_getElem?_getD, List.getElem?_eq_getElem (by rw [hp7]; exact hi)]; exact List.getElem_mem _ : places.getD i [] ∈ places)
          obtain ⟨aP, vsP, nP, rfl, hmP, hallP⟩ := hPl
          refine sub_memI (k := i) N' (.tail _ (.tail _ (.tail _ (.tail _ (.tail _ (.tail _ (hsub7 _ (hno6 _ hpl)))))))) rfl hvpl (by have := hplaces.length; omega) ?_
          k_steps
          have hsep : (Str.ofString "/").length = 1 := by decide
          have hIL := PySem.IsL.isList (N' _ (.tail _ (.tail _ (.tail _ (.tail _ (.tail _ (.tail _ (hsub7 _ (hno6 _ hmP))))))))).1
          have hst9 : StrsAre vsP.toArray.toList (places.getD i []) := strs_of_all2 hallP
          refine join_list (ys := places.getD i []) hIL hst9 (by rw [hsep]; omega) ?_
          intro t9 k9
          have hjl1 := hjl i hi
          have hnm : nameOf places i = Str.ofString "/" ++ Txt.join (Str.ofString "/") (places.getD i []) := rfl
          generalize Txt.join (Str.ofString "/") (places.getD i []) = jn at *
          k_steps
          rename_i D9 h9 F9 N9 l9
          obtain ⟨ot, ⟨ta, tb, nn, hot⟩, N10⟩ : ∃ ot : Obj, (∃ ta tb nn, ot = pairO (ps.getD i 0) ta (nameOf places i) tb nn) ∧ News g' L' h9 ((D9, ot) :: (I', oI') :: (C', oC') :: (D', LCg.lst ys) :: (D31, listOf pvs.toArray pn) :: (L' + 1 + 1, oP2) :: (L' + 1, oL) :: own7) := ⟨_, ⟨_, _, _, by rw [hnm]⟩, N9⟩
          refine ⟨h9, _, (D31, listOf pvs.toArray pn) :: (L' + 1 + 1, oP2) :: (L' + 1, oL) :: (D9, ot) :: own7, rfl, F9, News.sub N10 ?c1, LCg.Off3.of ?c2, trivial, its ++ [(at' ps i, nameOf places i)], (D9, ot) :: own7, rfl, ?c3, fun q hq => .tail _ (hsub7 q hq), by rw [itemsTo_succ, if_pos (by exact hlt), hits]⟩
          case c1 => exact mem_sink6
          case c2 => exact all4 (off'.mem _ (.head _)) (off'.mem _ (.tail _ (.head _))) (off'.mem _ (.tail _ (.tail _ (.head _)))) ⟨Nat.ne_of_gt l9.1, Nat.ne_of_gt l9.2.1, Nat.ne_of_gt l9.2.2.1⟩ fun q hq => off'.mem _ (.tail _ (.tail _ (.tail _ hq)))
          case c3 =>
            refine (hall.imp fun _ _ h => h.up fun q hq => .tail _ hq).snoc ?_
            subst hot
            exact ⟨D9, ta, tb, nn, rfl, .head _⟩
        · rename_i hlt
          exact ⟨h', _, _, rfl, F', N', off', trivial, its, own7, rfl, hall, hsub7, by rw [itemsTo_succ, if_neg (by exact hlt)]; exact hits⟩
      case cd =>
        rintro ys news1 ⟨its, own7, rfl, hall, hsub7, hits⟩ D70 h70 tk70 F70 N70 off70
        try clear F61
        try clear N61
        k_steps
        have hz : at' ps 0 = 0 := hpv.zero
        obtain ⟨hnd, hln⟩ := items_nodup (places := places) (ps := ps) hnames 7 (Nat.le_refl _)
        have h0 : ((0 : Int), nameOf places 0) ∈ itemsTo places ps 7 := items_mem.mpr ⟨0, by decide, by rw [hz], by rw [hz]; decide⟩
        rw [← hits] at hnd hln h0
        refine sorted_items (own := own7) F70 N70 (.head _) (fun q hq => .tail _ (.tail _ (.tail _ (.tail _ hq)))) hall hnd (List.length_pos_of_mem h0) (by omega) ?_
        intro D71 vs71 n71 h71 res F71 N71 hlt71 hall71 hmem71 hsrt71
        try clear F70
        try clear N70
        k_steps
        rw [hsts'] at hpv hpot
        exact ret _ _ _ _ res ps _ _ hpv hpot (hall71.imp fun _ _ h => h.up fun q hq => .tail _ (.tail _ (.tail _ (.tail _ hq)))) (fun t => (hmem71 t).trans (by rw [hits]; exact items_mem)) hsrt71 (fun q hq => .tail _ (.tail _ (.tail _ (.tail _ (hsub7 q (hno6 q hq)))))) (by assumption) (by assumption)
    case loop =>
    refine While_inv3 (DuW own4 D31 (L' + 1 + 1) (L' + 1) st oP2 oL sts) F34 (News.sub N34 ?w1)
      ⟨D34, [], 0, [], pvs0, 0, ps0, (D34, listOf ([] : List Value).toArray 0) :: own4, rfl, rfl, ⟨rfl, rfl, trivial⟩, .head _, .nil, hpvs0, dinv0 sts, fun q hq => .tail _ hq, ?w2⟩ ?w3
    case w1 => exact mem_w1
    case w2 =>
      intro q hq
      rcases List.mem_cons.mp hq with rfl | hq
      · exact ⟨Nat.ne_of_gt l34.2.1, Nat.ne_of_gt l34.1, Nat.ne_of_gt l34.2.2.1⟩
      · exact hown4 q hq
    case w3 =>
      rintro nn m1 news1 h40 tk40 F40 N40 ⟨bf, bvs2, bn2, bfs, pvs2, pn2, ps, own5, rfl, rfl, hm1, hbf, hbi, hpi, hD, hsub5, hadr5⟩
      have F41 := Fr.know F40 hm1
      try clear F40
      try clear F34
      try clear N34
      k_steps
      refine ke_ne_ints (PySem.IsL.isList (N40 _ (.tail _ (.tail _ (.tail _ hbf)))).1) (PySem.IsL.isList (N40 _ (.head _)).1) hbi hpi (by show un + 3 + 64 < cLine; omega) ?_
      k_steps
      · rename_i he
        obtain ⟨hp1, hp2⟩ := dinv_end hgs hD he
        exact ⟨by trivial, h40, _, _, pvs2, pn2, ps, own5, rfl, F41, N40, hpi, hp1, hp2, fun q hq => hsub5 _ (hno4 q hq), hadr5⟩
      · rename_i hne
        have hlen7 := hD.1.len
        have hlpv := hpi.length
        refine list_copyK F41 N40 (PySem.IsL.isList (N40 _ (.head _)).1) ?_ (by rw [sizeLine_eq]; simp; omega)
        intro D42 c42 h42 F42 N42 l42
        try clear F41
        try clear N40
        k_steps
        rename_i h43 F43 N43
        refine wpAny_noRaise (for_loop (h₀ := g') ?_)
        k_steps
        refine iter_list (l := st) (vs := svs) (k := sn) (DuJ3 D31 (L' + 1 + 1) (L' + 1) D42 st oP2 oL pvs2 c42 own5 sts ps) rfl F43 (News.sink3 N43) (.tail _ (.tail _ (.tail _ (.tail _ (hsub5 _ hstm))))) ⟨pvs2, pn2, rfl, ⟨rfl, rfl, trivial⟩, hpi⟩
          (by rintro i m1 news1 ⟨pvs3, pn3, rfl, _⟩; exact .tail _ (.tail _ (.tail _ (.tail _ (hsub5 _ hstm))))) ?w5 ?w6
        case w5 =>
          rintro i v m1 news1 h45 tk45 I o hv ⟨pvs3, pn3, rfl, hm45, hpi3⟩ hoff F45 N45
          have hmi : i < sts.length := by have := hst4.length; have := (List.getElem?_eq_some_iff.mp hv).1; omega
          obtain ⟨v', hv', hSt⟩ := hst4.get i (0, 0, 0) hmi
          obtain rfl : v = v' := by rw [hv] at hv'; exact Option.some.inj hv'
          have hge := hgs _ (by rw [List.getD_eq_getElem?_getD, List.getElem?_eq_getElem hmi]; exact List.getElem_mem _ : sts.getD i (0, 0, 0) ∈ sts)
          have hstep : (sts.take (i + 1)).foldl relax1 ps = relax1 ((sts.take i).foldl relax1 ps) (sts.getD i (0, 0, 0)) := foldl_take_succ _ _ _ _ _ hmi
          have hl3 : ((sts.take i).foldl relax1 ps).length = 7 := by rw [relaxs_len]; exact hlen7
          generalize sts.getD i (0, 0, 0) = e at *
          obtain ⟨ei, ej, ec⟩ := e
          obtain ⟨g1, g2, g3⟩ := hge
          simp only at g1 g2 g3
          obtain ⟨aS, ta, tb, tc, nS, rfl, hmS⟩ := hSt
          generalize (sts.take i).foldl relax1 ps = ps3 at *
          have hl4 := hpi3.length
          have F46 := Fr.know F45 hm45
          have N46 : News g' L' h45 ((D31, listOf pvs3.toArray pn3) :: (L' + 1 + 1, oP2) :: (L' + 1, oL) :: (I, o) :: (D42, listOf pvs2.toArray c42) :: own5) := News.sink3 N45
          have hTS : IsTup h45 aS #[.int (ei : Int) ta, .int (ej : Int) tb, .int ec tc] := ⟨_, (N46 _ (.tail _ (.tail _ (.tail _ (.tail _ (.tail _ (hsub5 _ hmS))))))).1, rfl, nS, rfl⟩
          try clear F45
          try clear N45
          try clear F43
          try clear N43
          k_steps
          rename_i h47 F47 N47
          obtain ⟨t1, e1⟩ := IntsAre_getD hpi3 (i := ej) (by omega)
          obtain ⟨t2, e2⟩ := IntsAre_getD hpi3 (i := ei) (by omega)
          refine sub_memI (k := ej) N47 (.head _) rfl e1 (by omega) ?_
          k_steps
          refine sub_memI (k := ei) N47 (.head _) rfl e2 (by omega) ?_
          k_steps
          rename_i h48 tk48 F48 N48
          refine set_head F48 N48 ?w7 (by omega) (by omega) ?_
          case w7 => exact all4 (Nat.ne_of_lt l31.2.2.2.2.1) (Nat.ne_of_lt l31.2.2.2.2.2.1) (fun e => hoff (D31, listOf pvs3.toArray pn3) (.head _) e.symm) (Nat.ne_of_gt (l42 _ (.head _))) fun q hq => (hadr5 q hq).1
          intro h49 F49 N49
          k_steps
          have em : (if ps3.getD ei 0 + ec < ps3.getD ej 0 then ps3.getD ei 0 + ec else ps3.getD ej 0) = min (ps3.getD ej 0) (ps3.getD ei 0 + ec) := by
            split <;> omega
          obtain ⟨vv, ⟨tv, hvv⟩, N49'⟩ : ∃ vv : Value, (∃ tv, vv = .int (if ps3.getD ei 0 + ec < ps3.getD ej 0 then ps3.getD ei 0 + ec else ps3.getD ej 0) tv) ∧ News g' L' h49 ((D31, listOf (pvs3.set ej vv).toArray pn3) :: (L' + 1 + 1, oP2) :: (L' + 1, oL) :: (I, o) :: (D42, listOf pvs2.toArray c42) :: own5) := ⟨_, ⟨_, rfl⟩, N49⟩
          clear N49
          dsimp only [ForEnd]
          refine ⟨_, _, _, (D31, listOf (pvs3.set ej vv).toArray pn3) :: (L' + 1 + 1, oP2) :: (L' + 1, oL) :: (D42, listOf pvs2.toArray c42) :: own5, rfl, F49, News.mv4 N49', ?w9, pvs3.set ej vv, pn3, rfl, ⟨rfl, rfl, trivial⟩, ?w10⟩
          case w9 => exact all4 (hoff (D31, listOf pvs3.toArray pn3) (.head _)) (hoff _ (.tail _ (.head _))) (hoff _ (.tail _ (.tail _ (.head _)))) (hoff _ (.tail _ (.tail _ (.tail _ (.head _))))) fun q hq => hoff _ (.tail _ (.tail _ (.tail _ (.tail _ hq))))
          case w10 =>
            rw [hstep]
            unfold relax1
            simp only
            rw [← em, hvv]
            exact IntsAre_set hpi3 ej _ _
        case w6 =>
          rintro m1 news1 h50 tk50 ⟨pvs3, pn3, rfl, hm50, hpi3⟩ F50 N50
          rw [hst4.length, List.take_length] at hpi3
          have F51 := Fr.know F50 hm50
          try clear F50
          k_steps
          obtain ⟨k1, k2⟩ := dinv_turn hgs hD hne
          dsimp only [WEnd]
          refine ⟨_, _, _, _, dmeas ps, rfl, F51, N50, k2, D42, pvs2, c42, ps, pvs3, pn3, relax sts ps, (D42, listOf pvs2.toArray c42) :: own5, rfl, rfl, ⟨rfl, rfl, trivial⟩, .head _, hpi, hpi3, k1, fun q hq => .tail _ (hsub5 q hq), ?_⟩
          intro q hq
          rcases List.mem_cons.mp hq with rfl | hq
          · exact ⟨Nat.ne_of_gt (l42 _ (.head _)), Nat.ne_of_gt (l42 _ (.tail _ (.head _))), Nat.ne_of_gt (l42 _ (.tail _ (.tail _ (.head _))))⟩
          · exact hadr5 q hq
end
end Mine
end

section
open PySem PySem.W PyProof.Rows PySem.Calls PySem.Spec
set_option Elab.async false
set_option maxRecDepth 100000
namespace Mine
theorem walk_start_P6 : True := by w_top off; trivial
def wordsL : List Str := [Str.ofString "a", Str.ofString "b\"", Str.ofString "..", Str.ofString "/", Str.ofString "../a", Str.ofString ".//b\"/a", Str.ofString "/b\""]
def placesL : List (List Str) := [[], [Str.ofString "a"], [Str.ofString "b\""], [Str.ofString "a", Str.ofString "a"], [Str.ofString "a", Str.ofString "b\""], [Str.ofString "b\"", Str.ofString "a"], [Str.ofString "b\"", Str.ofString "b\""]]
def moveOf (x : Int) : Str × Int := (wordsL.getD (x.fmod 7).toNat Str.empty, (x.fdiv 7).fmod 9 + 1)
def barOf (x : Int) : Int := x.fmod 6 + 1
theorem fmod_at (x : Int) : x.fmod 7 = (((x.fmod 7).toNat : Nat) : Int) ∧ (x.fmod 7).toNat < 7 := by
  have h1 := Int.fmod_nonneg_of_pos x (by decide : (0 : Int) < 7)
  have h2 := Int.fmod_lt_of_pos x (by decide : (0 : Int) < 7)
  omega
def movesOf (l1 : List Int) : List (Str × Int) := [(Str.ofString "a", (1 : Int)), (Str.ofString "..", 2)] ++ l1.map moveOf
def barsOf (l2 : List Int) : List Int := l2.map barOf
def nameI (b : Int) : Str := nameOf placesL b.toNat
theorem barOf_at (x : Int) : 1 ≤ barOf x ∧ barOf x ≤ 6 := by
  have h1 := Int.fmod_nonneg_of_pos x (by decide : (0 : Int) < 6)
  have h2 := Int.fmod_lt_of_pos x (by decide : (0 : Int) < 6)
  unfold barOf
  omega
theorem bar_mem {l2 : List Int} {b : Int} (h : b ∈ barsOf l2) : 1 ≤ b ∧ b ≤ 6 := by
  obtain ⟨x, _, rfl⟩ := List.mem_map.mp h
  exact barOf_at x
theorem words_at : ∀ i, i < 7 → wordsL.getD i Str.empty ∈ wordsL := by decide +kernel
theorem move_mem {l1 : List Int} {mv : Str × Int} (h : mv ∈ movesOf l1) : mv.1 ∈ wordsL ∧ 1 ≤ mv.2 ∧ mv.2 ≤ 9 := by
  have ha : Str.ofString "a" ∈ wordsL := by decide +kernel
  have hb : Str.ofString ".." ∈ wordsL := by decide +kernel
  rcases List.mem_append.mp h with h | h
  · rcases List.mem_cons.mp h with rfl | h
    · exact ⟨ha, by decide, by decide⟩
    · rw [List.mem_singleton.mp h]
      exact ⟨hb, by decide, by decide⟩
  · obtain ⟨x, _, rfl⟩ := List.mem_map.mp h
    have h1 := Int.fmod_nonneg_of_pos (x.fdiv 7) (by decide : (0 : Int) < 9)
    have h2 := Int.fmod_lt_of_pos (x.fdiv 7) (by decide : (0 : Int) < 9)
    exact ⟨words_at _ (fmod_at x).2, by show 1 ≤ (x.fdiv 7).fmod 9 + 1; omega, by show (x.fdiv 7).fmod 9 + 1 ≤ 9; omega⟩
theorem moves_len {l1 : List Int} (h : l1.length ≤ 3) : (movesOf l1).length ≤ 5 := by
  unfold movesOf
  rw [List.length_append, List.length_map]
  show 2 + l1.length ≤ 5
  omega

/-- pS by a count of turns -/
def pSf : Nat → Str → Nat → Str → Str
  | 0, _, _, d => d
  | f + 1, x, i, d =>
    if i < x.length then
      if (Txt.item x (i : Int) == Str.ofString "\"") = true then
        if x.length ≤ i + 1 then d
        else if (Txt.item x ((i : Int) + 1) != Str.ofString "\"") = true then d
        else pSf f x (i + 2) (d ++ Txt.item x (i : Int))
      else pSf f x (i + 1) (d ++ Txt.item x (i : Int))
    else d
theorem pS_eq (x : Str) : ∀ (f i : Nat) (d : Str), x.length ≤ i + f → pS x i d = pSf f x i d
  | 0, i, d, h => by rw [pS, if_neg (by omega)]; rfl
  | f + 1, i, d, h => by
    rw [pS]
    unfold pSf
    split
    · split
      · split
        · rfl
        · split
          · rfl
          · exact pS_eq x f (i + 2) _ (by omega)
      · exact pS_eq x f (i + 1) _ (by omega)
    · rfl

theorem nm_name : ∀ k, k < 7 → nameOf placesL k = nm k := by decide +kernel
theorem names_inj : ∀ i, i < 7 → ∀ j, j < 7 → nameOf placesL i = nameOf placesL j → i = j := by
  intro i hi j hj h
  rw [nm_name i hi, nm_name j hj] at h
  exact nm_inj i hi j hj h
theorem nm_ok : ∀ k, k < 7 → PyData.strOk (nm k) = true := by decide +kernel
theorem places_sz : ∀ ns ∈ placesL, (∀ c ∈ ns, PyData.strOk c = true) ∧ ns.length < 100 ∧ (ns.map (·.length)).sum < 1000 := by decide +kernel
theorem places_join : ∀ k, k < 7 → (Txt.join (Str.ofString "/") (placesL.getD k [])).length < 1000 := by decide +kernel
theorem places_sum : ∀ k, k < 7 → ((placesL.getD k []).map (·.length)).sum + (placesL.getD k []).length * (Str.ofString "/").length ≤ 16777216 := by decide +kernel
theorem words_sz : ∀ w ∈ wordsL, w.length < 500 ∧ 0 < w.length ∧ (Txt.split w (Str.ofString "/")).length < 100 ∧ (∀ c ∈ Txt.split w (Str.ofString "/"), c.length < 1000) ∧ ∀ k, k < 7 → ∀ c ∈ goS (placesL.getD k []) w, PyData.strOk c = true := by decide +kernel

/-- the path that a move makes of a name -/
def pth (k : Nat) (w : Str) : Str := normS (joinS (nm k) w)
def dst (k : Nat) (w : Str) : List Str := goS (placesL.getD k []) w
theorem path_in : ∀ k, k < 7 → ∀ w ∈ wordsL, dst k w ∈ placesL → placesL.idxOf (dst k w) < 7 ∧ pth k w = nm (placesL.idxOf (dst k w)) ∧ Txt.count (pth k w) (Str.ofString "/") ≤ 2 := by decide +kernel
theorem path_out : ∀ k, k < 7 → ∀ w ∈ wordsL, ¬ dst k w ∈ placesL → 2 < Txt.count (pth k w) (Str.ofString "/") := by decide +kernel
theorem nm_sz : ∀ k, k < 7 → (nm k).length < 500 := by decide +kernel
theorem path_sz1 : ∀ k, k < 7 → ∀ w ∈ wordsL, (joinS (nm k) w).length < 1000 ∧ (splitS (joinS (nm k) w)).2.length < 1000 ∧ (splitS (joinS (nm k) w)).1.length < 1000 ∧ ((joinS (nm k) w).length : Int) ≠ 0 ∧ ((splitS (joinS (nm k) w)).1.length : Int) ≠ 0 := by decide +kernel
theorem path_sz2 : ∀ k, k < 7 → ∀ w ∈ wordsL, (∀ c ∈ Txt.split (splitS (joinS (nm k) w)).2 (Str.ofString "/"), c.length < 1000) ∧ ((normParts (joinS (nm k) w)).map (·.length)).sum + (normParts (joinS (nm k) w)).length * (Str.ofString "/").length ≤ 16777216 ∧
    (Txt.join (Str.ofString "/") (normParts (joinS (nm k) w))).length < 1000 ∧ (Txt.split (splitS (joinS (nm k) w)).2 (Str.ofString "/")).length < 1000 := by decide +kernel
def repA (x : Str) : Str := Str.ofString "550 no way to " ++ x
def repB (x : Str) : Str := (Str.ofString "257 \"" ++ Txt.replace x (Str.ofString "\"") (Str.ofString "\"\"")) ++ Str.ofString "\" is \"here\""
theorem path_sz3 : ∀ k, k < 7 → ∀ w ∈ wordsL, (pth k w).length < 1000 ∧ (Txt.replace (pth k w) (Str.ofString "\"") (Str.ofString "\"\"")).length < 1000 ∧ (repA (pth k w)).length < 1000 ∧ (repB (pth k w)).length < 1000 ∧ 5 ≤ (repA (pth k w)).length ∧ 5 ≤ (repB (pth k w)).length := by decide +kernel
theorem path_ans : ∀ k, k < 7 → ∀ w ∈ wordsL, (Txt.slice (repA (pth k w)) none (some 3) != Str.ofString "257") = true ∧ (Txt.slice (repB (pth k w)) none (some 3) != Str.ofString "257") = false ∧ (Txt.slice (repB (pth k w)) (some 3) (some 5) != Str.ofString " \"") = false := by decide +kernel
theorem parse_back : ∀ k, k < 7 → pSf (repB (nm k)).length (repB (nm k)) 5 (Str.ofString "") = nm k := by decide +kernel

theorem reply_is (x : Str) (bs : List Str) : replyS x bs = if 2 < Txt.count x (Str.ofString "/") then repA x else if bs.any (· == x) = true then repA x else repB x := rfl
theorem reply_or (x : Str) (bs : List Str) : replyS x bs = repA x ∨ replyS x bs = repB x := by
  rw [reply_is]
  split
  · exact .inl rfl
  · split
    · exact .inl rfl
    · exact .inr rfl
theorem good_move {l1 : List Int} (bs : List Str) : ∀ here ∈ NM, ∀ mv ∈ movesOf l1, GoodMove bs here mv.1 := by
  intro here hh mv hmv
  obtain ⟨k, hk, rfl⟩ := mem_nm hh
  obtain ⟨hw, _, _⟩ := move_mem hmv
  obtain ⟨a1, a2, a3, a4, a5⟩ := path_sz1 k hk _ hw
  obtain ⟨b1, b2, b3, b4⟩ := path_sz2 k hk _ hw
  obtain ⟨c1, c2, c3, c4, c5, c6⟩ := path_sz3 k hk _ hw
  obtain ⟨d1, d2, d3⟩ := path_ans k hk _ hw
  have ro := reply_or (pth k mv.1) bs
  refine ⟨nm_sz k hk, (words_sz _ hw).1, a1, a2, a3, a4, a5, b1, b2, b3, b4, c1, c2, ?_, ?_, ?_⟩
  · rcases ro with e | e
    · show (replyS (pth k mv.1) bs).length < 1000
      rw [e]; exact c3
    · show (replyS (pth k mv.1) bs).length < 1000
      rw [e]; exact c4
  · rcases ro with e | e
    · show 5 ≤ (replyS (pth k mv.1) bs).length
      rw [e]; exact c5
    · show 5 ≤ (replyS (pth k mv.1) bs).length
      rw [e]; exact c6
  · show (Txt.slice (replyS (pth k mv.1) bs) none (some 3) != Str.ofString "257") = false → (Txt.slice (replyS (pth k mv.1) bs) (some 3) (some 5) != Str.ofString " \"") = false
    rcases ro with e | e
    · rw [e, d1]; intro h; cases h
    · rw [e]; intro _; exact d3

theorem bars_any {l2 : List Int} {j : Nat} (hj : j < 7) : ((barsOf l2).map nameI).any (· == nm j) = (barsOf l2).any (· == (j : Int)) := by
  rw [Bool.eq_iff_iff, List.any_eq_true, List.any_eq_true]
  constructor
  · rintro ⟨x, hx, e⟩
    obtain ⟨b, hb, rfl⟩ := List.mem_map.mp hx
    obtain ⟨h1, h2⟩ := bar_mem hb
    rw [beqS] at e
    unfold nameI at e
    rw [nm_name _ (by omega)] at e
    have := nm_inj _ (by omega) _ hj e
    exact ⟨b, hb, by simp; omega⟩
  · rintro ⟨b, hb, e⟩
    have e : b = (j : Int) := by simpa using e
    subst e
    refine ⟨nameI j, List.mem_map.mpr ⟨_, hb, rfl⟩, ?_⟩
    rw [beqS]
    unfold nameI
    rw [Int.toNat_natCast, nm_name _ hj]

theorem there_is {l2 : List Int} {k : Nat} (hk : k < 7) {w : Str} (hw : w ∈ wordsL) : thereS ((barsOf l2).map nameI) (nm k) w =
    if dst k w ∈ placesL then (if (barsOf l2).any (· == ((placesL.idxOf (dst k w) : Nat) : Int)) = true then nm k else nm (placesL.idxOf (dst k w))) else nm k := by
  obtain ⟨d1, d2, _⟩ := path_ans k hk _ hw
  have ht : thereS ((barsOf l2).map nameI) (nm k) w = if (Txt.slice (replyS (pth k w) ((barsOf l2).map nameI)) none (some 3) != Str.ofString "257") = true then nm k else pS (replyS (pth k w) ((barsOf l2).map nameI)) 5 (Str.ofString "") := rfl
  by_cases hd : dst k w ∈ placesL
  · obtain ⟨h7, h8, h9⟩ := path_in k hk w hw hd
    have hcn : ¬ 2 < Txt.count (pth k w) (Str.ofString "/") := by omega
    have ha := bars_any (l2 := l2) h7
    rw [← h8] at ha
    rw [if_pos hd]
    by_cases hb : (barsOf l2).any (· == ((placesL.idxOf (dst k w) : Nat) : Int)) = true
    · have hr : replyS (pth k w) ((barsOf l2).map nameI) = repA (pth k w) := by rw [reply_is, if_neg hcn, ha, if_pos hb]
      rw [ht, hr, if_pos d1, if_pos hb]
    · have hr : replyS (pth k w) ((barsOf l2).map nameI) = repB (pth k w) := by rw [reply_is, if_neg hcn, ha, if_neg hb]
      rw [ht, hr, if_neg (by rw [d2]; exact Bool.false_ne_true), if_neg hb]
      rw [h8, pS_eq _ (repB (nm (placesL.idxOf (dst k w)))).length _ _ (by omega)]
      exact parse_back _ h7
  · have hr : replyS (pth k w) ((barsOf l2).map nameI) = repA (pth k w) := by rw [reply_is, if_pos (path_out k hk w hw hd)]
    rw [ht, hr, if_pos d1, if_neg hd]

theorem net_is {l1 l2 : List Int} (h1 : l1.length ≤ 3) : Net (thereS ((barsOf l2).map nameI)) (movesOf l1) (stepsL placesL (barsOf l2) (movesOf l1)) := by
  refine ⟨fun k hk mv hmv => ?_, fun i j c hs => ?_, moves_len h1, fun mv hmv => (move_mem hmv).2.2⟩
  · obtain ⟨hw, _, _⟩ := move_mem hmv
    rw [there_is hk hw]
    by_cases hd : dst k mv.1 ∈ placesL
    · rw [if_pos hd]
      by_cases hb : (barsOf l2).any (· == ((placesL.idxOf (dst k mv.1) : Nat) : Int)) = true
      · rw [if_pos hb]; exact .inl rfl
      · rw [if_neg hb]
        exact .inr ⟨_, (path_in k hk _ hw hd).1, rfl, steps_mem.mpr ⟨hk, mv, hmv, hd, Bool.eq_false_iff.mpr hb, rfl, rfl⟩⟩
    · rw [if_neg hd]; exact .inl rfl
  · obtain ⟨hi, mv, hmv, hd, hb, rfl, rfl⟩ := steps_mem.mp hs
    obtain ⟨hw, hc1, _⟩ := move_mem hmv
    refine ⟨hi, (path_in i hi _ hw hd).1, hc1, mv, hmv, ?_, rfl⟩
    have hd' : dst i mv.1 ∈ placesL := hd
    rw [there_is hi hw, if_pos hd']
    have hb' : ¬ (barsOf l2).any (· == ((placesL.idxOf (dst i mv.1) : Nat) : Int)) = true := Bool.eq_false_iff.mp hb
    rw [if_neg hb']
    rfl
end Mine
end

section
open PySem PySem.W PyProof.Rows PySem.Calls PySem.Spec
set_option Elab.async false
set_option maxRecDepth 100000
set_option maxHeartbeats 8000000
set_option pp.deepTerms false
set_option pp.deepTerms.threshold 4
set_option pp.maxSteps 20000
local macro_rules | `(tactic| k_steps) => `(tactic| repeat' (
  (fail_if_success (with_reducible show wpAny _ _ (PySem.exec (Stmt.While _ _ _ _) _) _ _ _));
  (fail_if_success (with_reducible show wpAny _ _ (PySem.exec (Stmt.For _ _ _ _ _) _) _ _ _));
  (fail_if_success (with_reducible show wpAny _ _ (PySem.exec (Stmt.Assign _ (PySem.Expr.ListComp _ _ _ _) _) _) _ _ _));
  (fail_if_success (with_reducible show wpAny _ _ (PySem.call (Value.ref _) _ _) _ _ _));
  (fail_if_success (with_reducible show wpAny _ _ (PySem.call (Value.builtin "str.join") _ _) _ _ _));
  (fail_if_success (with_reducible show wpAny _ _ (compareOp CmpOp.Eq (Value.ref _) (Value.ref _)) _ _ _));
  (fail_if_success (with_reducible show wpAny _ _ (binaryOp PySem.Operator.Add (Value.ref _) (Value.ref _)) _ _ _));
  (fail_if_success (with_reducible show wpAny _ _ (subscriptTail _ _ (Value.ref _) (Value.int _ _)) _ _ _));
  (fail_if_success (with_reducible show wpAny _ _ (eval (PySem.Expr.ListComp _ _ _ _) _) _ _ _));
  (fail_if_success (with_reducible show LCg.CompSrc _ _ _ _ _ _ _ _ _ _ _ _ _ _));
  (fail_if_success (with_reducible show LCg.CompEnd _ _ _ _ _ _ _ _ _ _ _ _ _ _));
  (fail_if_success (with_reducible show Mine.Hold _));
  (first | ((with_reducible show wpAny _ _ (PySem.exec _ _) _ _ _); k_fold) | (k_unfold; (try dsimp only)) | (k_end; kc_close) | walk1 | (dsimp only; walk1) | (leave1; walk_say "STEP leave1"; (try dsimp only)) | fail "no step")))
namespace Mine
theorem walk_start_B13 : True := by w_top off; trivial
theorem MoveAt.up {l l' : List (Addr × Obj)} (hs : ∀ q ∈ l, q ∈ l') {v : Value} {x : Str × Int} (h : MoveAt l v x) : MoveAt l' v x := by
  obtain ⟨a, t, u, n, e, hm⟩ := h
  exact ⟨a, t, u, n, e, hs _ hm⟩
theorem all7 {P : Addr × Obj → Prop} {a b c d e f g : Addr × Obj} {l : Led} (ha : P a) (hb : P b) (hc : P c) (hd : P d) (he : P e) (hf : P f) (hg : P g) (hl : ∀ q ∈ l, P q) : ∀ q ∈ a :: b :: c :: d :: e :: f :: g :: l, P q
  | _, .head _ => ha | q, .tail _ h => all6 hb hc hd he hf hg hl q h
theorem all8 {P : Addr × Obj → Prop} {a b c d e f g i : Addr × Obj} {l : Led} (ha : P a) (hb : P b) (hc : P c) (hd : P d) (he : P e) (hf : P f) (hg : P g) (hi : P i) (hl : ∀ q ∈ l, P q) : ∀ q ∈ a :: b :: c :: d :: e :: f :: g :: i :: l, P q
  | _, .head _ => ha | q, .tail _ h => all7 hb hc hd he hf hg hi hl q h
theorem mem_sink8 {a b c d e f g i j : Addr × Obj} {l : Led} : ∀ q ∈ b :: c :: d :: e :: f :: g :: i :: j :: a :: l, q ∈ a :: b :: c :: d :: e :: f :: g :: i :: j :: l :=
  all8 (.tail _ (.head _)) (.tail _ (.tail _ (.head _))) (.tail _ (.tail _ (.tail _ (.head _)))) (.tail _ (.tail _ (.tail _ (.tail _ (.head _))))) (.tail _ (.tail _ (.tail _ (.tail _ (.tail _ (.head _)))))) (.tail _ (.tail _ (.tail _ (.tail _ (.tail _ (.tail _ (.head _))))))) (.tail _ (.tail _ (.tail _ (.tail _ (.tail _ (.tail _ (.tail _ (.head _)))))))) (.tail _ (.tail _ (.tail _ (.tail _ (.tail _ (.tail _ (.tail _ (.tail _ (.head _)))))))))
    fun q h => (List.mem_cons.mp h).elim (fun e => e ▸ .head _) fun h => .tail _ (.tail _ (.tail _ (.tail _ (.tail _ (.tail _ (.tail _ (.tail _ (.tail _ h))))))))
theorem mem_n22 {a b c d e f g : Addr × Obj} {l : Led} : ∀ q ∈ f :: g :: a :: l, q ∈ a :: b :: c :: d :: e :: f :: g :: l :=
  all3 (.tail _ (.tail _ (.tail _ (.tail _ (.tail _ (.head _)))))) (.tail _ (.tail _ (.tail _ (.tail _ (.tail _ (.tail _ (.head _))))))) (.head _) fun q h => .tail _ (.tail _ (.tail _ (.tail _ (.tail _ (.tail _ (.tail _ h))))))
theorem mem_n51 {a b c d : Addr × Obj} {l : Led} : ∀ q ∈ a :: c :: d :: l, q ∈ a :: b :: c :: d :: l :=
  all3 (.head _) (.tail _ (.tail _ (.head _))) (.tail _ (.tail _ (.tail _ (.head _)))) fun q h => .tail _ (.tail _ (.tail _ (.tail _ h)))
/-- a place's list as it was laid -/
def PL (o : Obj) (ns : List Str) : Prop := ∃ v : List Value, o = listOf v.toArray 0 ∧ All2 IsS v ns
inductive LawA (g0 : Heap) (L0 : Addr) (h : Heap) (Dsl lm lw c2 c1 DA DB : Addr) (ws : List Value) (oP0 oW : Obj) : Prop where
  | mk (wvs : List Value) (mobj oA oB : Obj) : All2 IsS wvs wordsL → mobj = listOf [Value.ref DA, Value.ref DB].toArray 0 → (∃ ta tb nn, oA = { cls := .type "tuple", data := .seq #[.str (Str.ofString "a") ta, .int 1 tb] nn }) →
      (∃ ta tb nn, oB = { cls := .type "tuple", data := .seq #[.str (Str.ofString "..") ta, .int 2 tb] nn }) → News g0 L0 h ((Dsl, listOf ws.toArray 0) :: (lm, mobj) :: (lw, listOf wvs.toArray 0) :: (c2, oP0) :: (c1, oW) :: [(DB, oB), (DA, oA)]) → LawA g0 L0 h Dsl lm lw c2 c1 DA DB ws oP0 oW
inductive LawC (Dsl lm lw c2 c1 DA DB : Addr) (ws wvs : List Value) (mobj oP0 oW oA oB : Obj) (l1 : List Int) (i : Nat) (ys : List Value) (news1 : Led) : Prop where
  | mk (own : Led) : news1 = (Dsl, listOf ws.toArray 0) :: (lm, mobj) :: (lw, listOf wvs.toArray 0) :: (c2, oP0) :: (c1, oW) :: own → (∀ q ∈ own, q.1 ≠ c2) → (DB, oB) ∈ own → (DA, oA) ∈ own → All2 (MoveAt own) ys ((l1.take i).map moveOf) → LawC Dsl lm lw c2 c1 DA DB ws wvs mobj oP0 oW oA oB l1 i ys news1
inductive LawP (g0 : Heap) (L0 : Addr) (h : Heap) (pl mv c2 c1 : Addr) (oP0 oW : Obj) (mvs : List Value) (ml : List (Str × Int)) : Prop where
  | mk (pvs : List Value) (own3 : Led) : News g0 L0 h ((c2, oP0) :: (c1, oW) :: own3) → All2 (ListAt own3) pvs placesL → (∀ q ∈ own3, q.1 ≠ c2) → (pl, listOf pvs.toArray 0) ∈ own3 → (mv, listOf mvs.toArray 0) ∈ own3 → All2 (MoveAt own3) mvs ml → LawP g0 L0 h pl mv c2 c1 oP0 oW mvs ml
theorem law_places {g0 : Heap} {L0 : Addr} {h : Heap} {pl mv c2 c1 p1 p2 p3 p4 p5 p6 p7 : Addr} {oP0 oW q1 q2 q3 q4 q5 q6 q7 : Obj} {mvs : List Value} {ml : List (Str × Int)} {own : Led}
    (N : News g0 L0 h ((pl, listOf [Value.ref p1, Value.ref p2, Value.ref p3, Value.ref p4, Value.ref p5, Value.ref p6, Value.ref p7].toArray 0) :: (p7, q7) :: (p6, q6) :: (p5, q5) :: (p4, q4) :: (p3, q3) :: (p2, q2) :: (p1, q1) :: (c2, oP0) :: (c1, oW) :: (mv, listOf mvs.toArray 0) :: own))
    (h1 : PL q1 []) (h2 : PL q2 [Str.ofString "a"]) (h3 : PL q3 [Str.ofString "b\""]) (h4 : PL q4 [Str.ofString "a", Str.ofString "a"]) (h5 : PL q5 [Str.ofString "a", Str.ofString "b\""]) (h6 : PL q6 [Str.ofString "b\"", Str.ofString "a"]) (h7 : PL q7 [Str.ofString "b\"", Str.ofString "b\""])
    (n0 : pl ≠ c2) (n1 : p1 ≠ c2) (n2 : p2 ≠ c2) (n3 : p3 ≠ c2) (n4 : p4 ≠ c2) (n5 : p5 ≠ c2) (n6 : p6 ≠ c2) (n7 : p7 ≠ c2) (nm : mv ≠ c2) (no : ∀ q ∈ own, q.1 ≠ c2) (hm : All2 (MoveAt own) mvs ml) : LawP g0 L0 h pl mv c2 c1 oP0 oW mvs ml := by
  obtain ⟨v1, rfl, a1⟩ := h1
  obtain ⟨v2, rfl, a2⟩ := h2
  obtain ⟨v3, rfl, a3⟩ := h3
  obtain ⟨v4, rfl, a4⟩ := h4
  obtain ⟨v5, rfl, a5⟩ := h5
  obtain ⟨v6, rfl, a6⟩ := h6
  obtain ⟨v7, rfl, a7⟩ := h7
  refine ⟨_, _ :: _ :: _ :: _ :: _ :: _ :: _ :: _ :: _ :: own, News.sub N (fun q hq => ?_), .cons ⟨p1, v1, 0, rfl, .tail _ (.tail _ (.tail _ (.tail _ (.tail _ (.tail _ (.tail _ (.head _))))))), a1⟩ (.cons ⟨p2, v2, 0, rfl, .tail _ (.tail _ (.tail _ (.tail _ (.tail _ (.tail _ (.head _)))))), a2⟩ (.cons ⟨p3, v3, 0, rfl, .tail _ (.tail _ (.tail _ (.tail _ (.tail _ (.head _))))), a3⟩ (.cons ⟨p4, v4, 0, rfl, .tail _ (.tail _ (.tail _ (.tail _ (.head _)))), a4⟩ (.cons ⟨p5, v5, 0, rfl, .tail _ (.tail _ (.tail _ (.head _))), a5⟩ (.cons ⟨p6, v6, 0, rfl, .tail _ (.tail _ (.head _)), a6⟩ (.cons ⟨p7, v7, 0, rfl, .tail _ (.head _), a7⟩ (.nil))))))),
    all8 n0 n7 n6 n5 n4 n3 n2 n1 fun q hq => (List.mem_cons.mp hq).elim (fun e => e ▸ nm) (no q), .head _, .tail _ (.tail _ (.tail _ (.tail _ (.tail _ (.tail _ (.tail _ (.tail _ (.head _)))))))), hm.imp fun _ _ h => h.up fun q hq => .tail _ (.tail _ (.tail _ (.tail _ (.tail _ (.tail _ (.tail _ (.tail _ (.tail _ hq))))))))⟩
  simp only [List.mem_cons] at hq ⊢
  rcases hq with h | h | h | h | h | h | h | h | h | h | h | h
  all_goals (first | (subst h; simp only [true_or, or_true]) | simp only [h, or_true, true_or])
theorem law_holds : PySem.Challenge.rw_pd0167_01.Holds := hd (by
  k_go0
  all_goals (try k_fold)
  rename_i w s₀ s₁ mg mb G Y fa o pm doc ho hg KX XM VL GL T TB TE TW wa wb M wc wd hcd ns hs hlay0 hLay hr1 hl2 we wf sa svs wg hL ra w1 r0 hI hr hcond1 hcond K0 hD h₁ tk₁ F0 oP0 oW0 hP0 hW0 N0 X0
  generalize hL0 : s₁.heap.objs.size = L0 at *
  generalize hg0 : s₁.heap = g0 at *
  generalize hgs0 : s₁.gens = gs0 at *
  generalize hdr0 : s₁.drawn = dr0 at *
  generalize hos0 : s₁.os = os0 at *
  k_steps
  k_dflt (refine LCg.ListComp_U (F₀ := by k_asm) (by with_unfolding_all rfl) (by decide) (by rfl) (by decide) (by rfl) ?_)
  k_steps
  rename_i lw hA ltA hB oW dW DA hC ltC DB hD ltD lm hE ltE Dsl ws hF F1 N1 hI1 hC1 hL1 ltsl
  obtain ⟨wvs, mobj, oA, oB, hwvs, hmobj, hoA, hoB, N2⟩ : LawA g0 L0 hF Dsl lm lw (L0 + 1 + 1) (L0 + 1) DA DB ws oP0 oW := ⟨_, _, _, _, .cons ⟨_, rfl⟩ (.cons ⟨_, rfl⟩ (.cons ⟨_, rfl⟩ (.cons ⟨_, rfl⟩ (.cons ⟨_, rfl⟩ (.cons ⟨_, rfl⟩ (.cons ⟨_, rfl⟩ .nil)))))), rfl, ⟨_, _, _, rfl⟩, ⟨_, _, _, rfl⟩, News.sub N1
    (all7 (.head _) (.tail _ (.head _)) (.tail _ (.tail _ (.tail _ (.tail _ (.head _))))) (.tail _ (.tail _ (.tail _ (.tail _ (.tail _ (.head _)))))) (.tail _ (.tail _ (.tail _ (.tail _ (.tail _ (.tail _ (.head _))))))) (.tail _ (.tail _ (.head _))) (.tail _ (.tail _ (.tail _ (.head _)))) (fun q hq => nomatch hq))⟩
  obtain ⟨l1, hl1I, hl1len⟩ : ∃ l1 : List Int, IntsAre ws l1 ∧ l1.length ≤ 3 := ⟨_, hI1, by rw [hC1]; omega⟩
  clear hI1 hC1 hL1
  have hws := hl1I.length
  refine LCg.CompSrc.ledger rfl F1 N2 (.head _) (by rw [sizeLine_eq]; simp; omega) ?_
  intro g7
  refine comp_inv (LawC Dsl lm lw (L0 + 1 + 1) (L0 + 1) DA DB ws wvs mobj oP0 oW oA oB l1) ws.toArray.size ?ct ?cd _ 0 [] _ (Nat.zero_add _) ⟨[(DB, oB), (DA, oA)], rfl, ?cadr, .head _, .tail _ (.head _), .nil⟩
  case cadr =>
    intro q hq
    simp only [List.mem_cons] at hq
    rcases hq with rfl | rfl | hq
    · exact Nat.ne_of_gt ltD.2.2.1
    · exact Nat.ne_of_gt ltC.2.1
    · exact nomatch hq
  case ct =>
    rintro i ys news1 v' I' oI' C' oC' D' m' h' tk' E' hi ⟨own, rfl, hadr, hDB, hDA, hall⟩ hv' hC' hx' F' N' off' ne'
    obtain ⟨x, t, rfl, hx⟩ := hl1I.at i v' (by simpa using hv')
    try clear F1
    try clear N1
    try clear N2
    k_steps
    obtain ⟨f1, f2⟩ := fmod_at x
    obtain ⟨vw, hvw, tw, hvw'⟩ := hwvs.get (x.fmod 7).toNat Str.empty f2
    subst hvw'
    refine sub_memI (k := (x.fmod 7).toNat) N' (.tail _ (.tail _ (.tail _ (.tail _ (.tail _ (.head _)))))) f1 hvw (by have := hwvs.length; rw [this]; decide) ?_
    k_steps
    rename_i D9 h9 F9 N9 l9
    obtain ⟨ot, ⟨ta, tb, nn, hot⟩, N10⟩ : ∃ ot : Obj, (∃ ta tb nn, ot = { cls := .type "tuple", data := .seq #[.str (moveOf x).1 ta, .int (moveOf x).2 tb] nn }) ∧ News g0 L0 h9 ((D9, ot) :: (I', oI') :: (C', oC') :: (D', LCg.lst ys) :: (Dsl, listOf ws.toArray 0) :: (lm, mobj) :: (lw, listOf wvs.toArray 0) :: (L0 + 1 + 1, oP0) :: (L0 + 1, oW) :: own) := ⟨_, ⟨_, _, _, rfl⟩, N9⟩
    refine ⟨h9, _, (Dsl, listOf ws.toArray 0) :: (lm, mobj) :: (lw, listOf wvs.toArray 0) :: (L0 + 1 + 1, oP0) :: (L0 + 1, oW) :: (D9, ot) :: own, rfl, F9, News.sub N10 ?c1, LCg.Off3.of ?c2, .inr ⟨_, .head _, rfl, _, rfl⟩, (D9, ot) :: own, rfl, ?c3, .tail _ hDB, .tail _ hDA, ?c4⟩
    case c1 => exact mem_sink8
    case c2 => exact all6 (off'.mem _ (.head _)) (off'.mem _ (.tail _ (.head _))) (off'.mem _ (.tail _ (.tail _ (.head _)))) (off'.mem _ (.tail _ (.tail _ (.tail _ (.head _))))) (off'.mem _ (.tail _ (.tail _ (.tail _ (.tail _ (.head _)))))) ⟨Nat.ne_of_gt l9.1, Nat.ne_of_gt l9.2.1, Nat.ne_of_gt l9.2.2.1⟩ fun q hq => off'.mem _ (.tail _ (.tail _ (.tail _ (.tail _ (.tail _ hq)))))
    case c3 =>
      intro q hq
      rcases List.mem_cons.mp hq with rfl | hq
      · exact Nat.ne_of_gt l9.2.2.2.2.2.2.1
      · exact hadr q hq
    case c4 =>
      rw [List.take_add_one, hx, List.map_append]
      refine (hall.imp fun _ _ h => h.up fun q hq => .tail _ hq).snoc ?_
      subst hot
      exact ⟨D9, ta, tb, nn, rfl, .head _⟩
  case cd =>
    rintro ys news1 ⟨own, rfl, hadr, hDB, hDA, hall⟩ D20 h20 tk20 F20 N20 off20
    have hlen : ws.toArray.size = l1.length := by simpa using hws
    rw [hlen, List.take_length] at hall
    have hyl := hall.length
    rw [List.length_map] at hyl
    try clear F1
    try clear N1
    try clear N2
    k_steps
    subst hmobj
    refine add_lists (vs := [Value.ref DA, Value.ref DB]) (ws := ys) F20 N20 (PySem.IsL.isList (N20 _ (.tail _ (.tail _ (.head _)))).1) (PySem.IsL.isList (N20 _ (.head _)).1) ?_ (by rw [sizeLine_eq]; simp; omega)
    intro h21 F21 N21
    generalize hmvA : h20.objs.size = mv at *
    have hmvlt : ∀ q ∈ (L0 + 1 + 1, oP0) :: (L0 + 1, oW) :: own, q.1 < mv := by
      intro q hq
      rw [← hmvA]
      exact Heap.lt_size (N20 q (.tail _ (.tail _ (.tail _ (.tail _ hq))))).1
    have hmvs : All2 (MoveAt own) ([Value.ref DA, Value.ref DB] ++ ys) ([(Str.ofString "a", (1 : Int)), (Str.ofString "..", 2)] ++ l1.map moveOf) := by
      obtain ⟨ta, tb, nn, rfl⟩ := hoA
      obtain ⟨tc, td, n2, rfl⟩ := hoB
      exact .cons ⟨DA, ta, tb, nn, rfl, hDA⟩ (.cons ⟨DB, tc, td, n2, rfl, hDB⟩ hall)
    have N22 : News g0 L0 h21 ((L0 + 1 + 1, oP0) :: (L0 + 1, oW) :: (mv, listOf ([Value.ref DA, Value.ref DB] ++ ys).toArray 0) :: own) := News.sub N21 mem_n22
    try clear N20
    try clear N21
    try clear F20
    clear hall hyl hDA hDB
    generalize [Value.ref DA, Value.ref DB] ++ ys = mvs at *
    k_steps
    rename_i h30 p1 h31 lt1 p2 h32 lt2 p3 h33 lt3 p4 h34 lt4 p5 h35 lt5 p6 h36 lt6 p7 h37 lt7 pl h38 F38 N38 ltpl
    obtain ⟨pvs, own3, N40, hplaces, hadr3, hplm, hmvm, hmvs3⟩ := law_places (c2 := L0 + 1 + 1) (c1 := L0 + 1) N38 ⟨_, rfl, .nil⟩ ⟨_, rfl, .cons ⟨_, rfl⟩ .nil⟩ ⟨_, rfl, .cons ⟨_, rfl⟩ .nil⟩ ⟨_, rfl, .cons ⟨_, rfl⟩ (.cons ⟨_, rfl⟩ .nil)⟩ ⟨_, rfl, .cons ⟨_, rfl⟩ (.cons ⟨_, rfl⟩ .nil)⟩ ⟨_, rfl, .cons ⟨_, rfl⟩ (.cons ⟨_, rfl⟩ .nil)⟩ ⟨_, rfl, .cons ⟨_, rfl⟩ (.cons ⟨_, rfl⟩ .nil)⟩
      (Nat.ne_of_gt ltpl.2.2.2.2.2.2.2.1) (Nat.ne_of_gt lt1.1) (Nat.ne_of_gt lt2.2.1) (Nat.ne_of_gt lt3.2.2.1) (Nat.ne_of_gt lt4.2.2.2.1) (Nat.ne_of_gt lt5.2.2.2.2.1) (Nat.ne_of_gt lt6.2.2.2.2.2.1) (Nat.ne_of_gt lt7.2.2.2.2.2.2.1) (Nat.ne_of_gt (hmvlt (L0 + 1 + 1, oP0) (.head _))) hadr hmvs
    clear hmvs N38
    have hP0' : oP0.data = .cell none := hP0
    refine storeX_C (v₀ := none) F38 N40 (by rfl) (.head ?sp) hP0' ?_
    case sp =>
      intro q hq
      rcases List.mem_cons.mp hq with rfl | hq
      · exact (Nat.succ_ne_self _).symm
      · exact hadr3 q hq
    intro h41 oP F41 N41 dP
    try clear F38
    try clear N40
    k_steps
    k_dflt (refine LCg.Assign_ListComp_U (F₀ := F41) (by rfl) (by with_unfolding_all rfl) (by with_unfolding_all rfl) (by decide) (by rfl) (by decide) (by rfl) (by rfl) (by rfl) ?_)
    k_steps
    rename_i Ds2 ws2 h43 F43 N43 hI2 hC2 hL2 lt43
    obtain ⟨l2, hl2I, hl2len⟩ : ∃ l2 : List Int, IntsAre ws2 l2 ∧ l2.length ≤ 5 := ⟨_, hI2, by rw [hC2]; omega⟩
    clear hI2 hC2 hL2
    have hws2 := hl2I.length
    refine LCg.CompSrc.ledger rfl F43 N43 (.head _) (by rw [sizeLine_eq]; simp; omega) ?_
    intro g44
    refine comp_inv (fun i ys news1 => news1 = (Ds2, listOf ws2.toArray 0) :: (L0 + 1 + 1, oP) :: (L0 + 1, oW) :: own3 ∧ IntsAre ys ((l2.take i).map barOf)) ws2.toArray.size ?ct2 ?cd2 _ 0 [] _ (Nat.zero_add _) ⟨rfl, .nil⟩
    case ct2 =>
      rintro i ys news1 v' I' oI' C' oC' D' m' h' tk' E' hi ⟨rfl, hall⟩ hv' hC' hx' F' N' off' ne'
      obtain ⟨x, t, rfl, hx⟩ := hl2I.at i v' (by simpa using hv')
      try clear F43
      try clear N43
      k_steps
      exact ⟨h', _, _, rfl, F', N', off', .inr ⟨_, .head _, rfl, _, rfl⟩, rfl, by
        rw [List.take_add_one, hx, List.map_append]
        exact hall.append (.cons _ _ .nil)⟩
    case cd2 =>
      rintro ys2 news1 ⟨rfl, hbars⟩ bd h50 tk50 F50 N50 off50
      have hlen2 : ws2.toArray.size = l2.length := by simpa using hws2
      rw [hlen2, List.take_length] at hbars
      have hblen := hbars.length
      rw [List.length_map] at hblen
      try clear F43
      try clear N43
      have N51 : News g0 L0 h50 ((bd, listOf ys2.toArray ys2.length) :: (L0 + 1 + 1, oP) :: (L0 + 1, oW) :: own3) := News.sub N50 mem_n51
      try clear N50
      k_steps
      k_dflt (refine LCg.ListComp_U (F₀ := by k_asm) (by with_unfolding_all rfl) (by decide) (by rfl) (by decide) (by rfl) ?_)
      k_steps
      refine LCg.CompSrc.ledger rfl F50 N51 (.head _) (by rw [sizeLine_eq]; simp; omega) ?_
      intro g52
      refine comp_inv (fun i ys3 news1 => news1 = (bd, listOf ys2.toArray ys2.length) :: (L0 + 1 + 1, oP) :: (L0 + 1, oW) :: own3 ∧ All2 IsS ys3 (((barsOf l2).take i).map nameI)) ys2.toArray.size ?ct3 ?cd3 _ 0 [] _ (Nat.zero_add _) ⟨rfl, .nil⟩
      case ct3 =>
        rintro i ys news1 v' I' oI' C' oC' D' m' h' tk' E' hi ⟨rfl, hall⟩ hv' hC' hx' F' N' off' ne'
        obtain ⟨b, t, rfl, hx⟩ := hbars.at i v' (by simpa using hv')
        have hb := bar_mem (l2 := l2) (List.mem_of_getElem? hx)
        try clear F50
        try clear N51
        k_steps
        obtain ⟨vpl, hvpl, hPl⟩ := hplaces.get b.toNat [] (by show b.toNat < 7; omega)
        obtain ⟨aP, vsP, nP, rfl, hmP, hallP⟩ := hPl
        refine sub_memI (k := b.toNat) N' (.tail _ (.tail _ (.tail _ (.tail _ (.tail _ (.tail _ hplm)))))) (by omega) hvpl (by have := hplaces.length; rw [this]; decide) ?_
        k_steps
        have hIL := PySem.IsL.isList (N' _ (.tail _ (.tail _ (.tail _ (.tail _ (.tail _ (.tail _ hmP))))))).1
        have hst9 : StrsAre vsP.toArray.toList (placesL.getD b.toNat []) := strs_of_all2 hallP
        have hpl9 : ((placesL.getD b.toNat []).map (·.length)).sum + (placesL.getD b.toNat []).length * (Str.ofString "/").length ≤ 16777216 ∧ (Txt.join (Str.ofString "/") (placesL.getD b.toNat [])).length < 1000 := ⟨places_sum _ (by omega), places_join _ (by omega)⟩
        refine join_list (ys := placesL.getD b.toNat []) hIL hst9 hpl9.1 ?_
        intro t9 k9
        have hjl1 := hpl9.2
        have hnm : nameI b = Str.ofString "/" ++ Txt.join (Str.ofString "/") (placesL.getD b.toNat []) := rfl
        have htk : ((barsOf l2).take (i + 1)).map nameI = ((barsOf l2).take i).map nameI ++ [nameI b] := by
          rw [List.take_add_one, show (barsOf l2)[i]? = some b from hx, List.map_append]; rfl
        generalize Txt.join (Str.ofString "/") (placesL.getD b.toNat []) = jn at *
        k_steps
        refine ⟨h', _, _, rfl, F', N', off', .inr ⟨_, .head _, rfl, _, rfl⟩, rfl, ?_⟩
        rw [htk, hnm]
        exact hall.snoc ⟨_, rfl⟩
      case cd3 =>
        rintro ys3 news1 ⟨rfl, hbs⟩ bn h60 tk60 F60 N60 off60
        have hlen3 : ys2.toArray.size = (barsOf l2).length := by unfold barsOf; rw [List.length_map]; simpa using hblen
        rw [hlen3, List.take_length] at hbs
        try clear F50
        try clear N51
        k_steps
        have net : Net (thereS ((barsOf l2).map nameI)) (movesOf l1) (stepsL placesL (barsOf l2) (movesOf l1)) := net_is hl1len
        have hgoodm : ∀ here ∈ NM, ∀ mv ∈ movesOf l1, GoodMove ((barsOf l2).map nameI) here mv.1 := good_move _
        have hml1 : (movesOf l1).length < 100 := by have := moves_len hl1len; omega
        have hmc1 : ∀ mv ∈ movesOf l1, 1 ≤ mv.2 := fun mv h => (move_mem h).2.1
        have hpo1 : ∀ ns ∈ placesL, OkS ns ∧ ns.length < 100 ∧ (ns.map (·.length)).sum < 1000 := places_sz
        have hjl1 : ∀ k, k < 7 → (Txt.join (Str.ofString "/") (placesL.getD k [])).length < 1000 := places_join
        have hnm1 : ∀ k, k < 7 → nameOf placesL k = nm k := nm_name
        have hnames1 : ∀ i, i < 7 → ∀ j, j < 7 → nameOf placesL i = nameOf placesL j → i = j := names_inj
        have hw1 : ∀ mv ∈ movesOf l1, mv.1.length < 1000 ∧ 0 < mv.1.length ∧ (Txt.split mv.1 (Str.ofString "/")).length < 100 ∧ (∀ c ∈ Txt.split mv.1 (Str.ofString "/"), c.length < 1000) ∧ ∀ k, k < 7 → OkS (goS (placesL.getD k []) mv.1) := fun mv h => by
          obtain ⟨z1, z2, z3, z4, z5⟩ := words_sz _ (move_mem h).1
          exact ⟨by omega, z2, z3, z4, z5⟩
        have hnmok : ∀ k, k < 7 → PyData.strOk (nm k) = true := nm_ok
        have hmvs4 : All2 (MoveAt ((bn, LCg.lst ys3) :: (bd, listOf ys2.toArray ys2.length) :: (L0 + 1 + 1, oP) :: (L0 + 1, oW) :: own3)) mvs (movesOf l1) := hmvs3.imp fun _ _ h => h.up fun q hq => .tail _ (.tail _ (.tail _ (.tail _ hq)))
        have hplaces4 : All2 (ListAt ((bn, LCg.lst ys3) :: (bd, listOf ys2.toArray ys2.length) :: (L0 + 1 + 1, oP) :: (L0 + 1, oW) :: own3)) pvs placesL := hplaces.imp fun _ _ h => h.up fun q hq => .tail _ (.tail _ (.tail _ (.tail _ hq)))
        have hmvm4 : (mv, listOf mvs.toArray 0) ∈ (bn, LCg.lst ys3) :: (bd, listOf ys2.toArray ys2.length) :: (L0 + 1 + 1, oP) :: (L0 + 1, oW) :: own3 := .tail _ (.tail _ (.tail _ (.tail _ hmvm)))
        have hplm4 : (pl, listOf pvs.toArray 0) ∈ (bn, LCg.lst ys3) :: (bd, listOf ys2.toArray ys2.length) :: (L0 + 1 + 1, oP) :: (L0 + 1, oW) :: own3 := .tail _ (.tail _ (.tail _ (.tail _ hplm)))
        k_dflt (refine search_walk (mvs := mvs) (mn := 0) (bvs := ys3) (bn := ys3.length) (moves := movesOf l1) (bs := (barsOf l2).map nameI) (SInv (stepsL placesL (barsOf l2) (movesOf l1))) (by assumption) F60 (by assumption) N60 (by assumption) rfl (by ktr_room) (by ktr_units) hmvm4 hmvs4 (.head _) hbs smeas NM (sinv0 _) (fun xs done told h => sinv_sz h) hml1 hgoodm (fun xs done told h hne hd => sinv1 h hne hd) (fun xs done told h hne hd => sinv2 net h hne hd) ?_)
        intro tl tvs told done tn own62 h62 tk62 hInv hall62 hsub62 F62 N62
        have N63 : News g0 L0 h62 ((tl, listOf tvs.toArray tn) :: (L0 + 1 + 1, oP) :: (L0 + 1, oW) :: own62) := News.sub N62 (all3 (.head _) (.tail _ (hsub62 _ (.tail _ (.tail _ (.head _))))) (.tail _ (hsub62 _ (.tail _ (.tail _ (.tail _ (.head _)))))) fun q hq => .tail _ hq)
        try clear N62
        try clear N60
        try clear F60
        k_steps
        rename_i h64 F64 N64
        have up5 : ∀ q ∈ (bn, LCg.lst ys3) :: (bd, listOf ys2.toArray ys2.length) :: (L0 + 1 + 1, oP) :: (L0 + 1, oW) :: own3, q ∈ (tl, listOf tvs.toArray tn) :: (L0 + 1 + 1, oP) :: (L0 + 1, oW) :: own62 := fun q hq => .tail _ (.tail _ (.tail _ (hsub62 q hq)))
        have hmvs5 : All2 (MoveAt ((tl, listOf tvs.toArray tn) :: (L0 + 1 + 1, oP) :: (L0 + 1, oW) :: own62)) mvs (movesOf l1) := hmvs4.imp fun _ _ h => h.up up5
        have hplaces5 : All2 (ListAt ((tl, listOf tvs.toArray tn) :: (L0 + 1 + 1, oP) :: (L0 + 1, oW) :: own62)) pvs placesL := hplaces4.imp fun _ _ h => h.up up5
        have hbars5 : IntsAre ys2 (barsOf l2) := hbars
        have hall5 : All2 (ItemAt ((tl, listOf tvs.toArray tn) :: (L0 + 1 + 1, oP) :: (L0 + 1, oW) :: own62)) tvs told := hall62.imp fun _ _ h => h.up fun q hq => .tail _ (.tail _ (.tail _ hq))
        k_dflt (refine due_walk (mvs := mvs) (mn := 0) (pvs := pvs) (pn := 0) (bvs := ys2) (bn := ys2.length) (moves := movesOf l1) (places := placesL) (bars := barsOf l2) (by assumption) F64 (by assumption) N64 (by assumption) rfl (by ktr_room) (by ktr_units) (up5 _ hmvm4) hmvs5 hml1 hmc1 (up5 _ hplm4) hplaces5 rfl hpo1 hjl1 hnames1 (up5 _ (.tail _ (.head _))) hbars5 hw1 ?_)
        intro D vs' n' own9 res P h70 tk70 hpi hpot hall9 hmem9 hsrt9 hsub9 F70 N70
        try clear F64
        try clear N64
        try clear N63
        k_steps
        obtain ⟨ts1, ts2⟩ := told_spec net hInv hpot
        have hres : told = res := sorted_uniq ts1 hsrt9 fun t => (ts2 t).trans ((hmem9 t).trans (by
          constructor
          · rintro ⟨k, hk, rfl, hl⟩; exact ⟨k, hk, by rw [hnm1 k hk], hl⟩
          · rintro ⟨k, hk, rfl, hl⟩; exact ⟨k, hk, by rw [hnm1 k hk], hl⟩)).symm
        subst hres
        have hok9 : ∀ x ∈ told, PyData.strOk x.2 = true := by
          intro x hx
          obtain ⟨k, hk, rfl, _⟩ := (ts2 x).mp hx
          exact hnmok k hk
        obtain ⟨sh1, sh2⟩ := shaped_items hok9
        have hsh : SeqAt.shaped (.list (told.map Mine.dP)) = true := by
          unfold SeqAt.shaped
          rw [Bool.and_eq_true]
          exact ⟨by simp only [PyData.canLay0]; exact sh1, decide_eq_true (by simp only [PyData.depth]; omega)⟩
        have r1 := reads_items N70 (hall5.imp fun _ _ h => h.up fun q hq => .tail _ (hsub9 q hq))
        have r2 := reads_items N70 (hall9.imp fun _ _ h => h.up fun q hq => .tail _ hq)
        have z1 := (N70 _ (.tail _ (hsub9 _ (.head _)))).1
        have z2 := (N70 _ (.head _)).1
        refine eq_dataH (Reads.list z1 rfl rfl r1) (Reads.list z2 rfl rfl r2) hsh hsh (by ktr_units) ?_
        have heq : PyData.eqv (.list (told.map Mine.dP)) (.list (told.map Mine.dP)) = true := by
          simp only [PyData.eqv]; exact eqv_items told
        rw [heq]
        k_steps
        subst hL0 hg0 hgs0 hdr0 hos0
        k_steps)
end Mine
end

theorem PySem.Challenge.cw_pd0167_01_holds : PySem.Challenge.rw_pd0167_01.Holds :=
  Mine.law_holds
