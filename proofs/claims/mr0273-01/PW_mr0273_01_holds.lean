import PyProof.Rows.All
import Wide.All
import OpenK.AllK
import Wide.FinOn
import PySem.Challenge.RW_mr0273_01
set_option Elab.async false
set_option linter.all false
namespace Mine
section
open PySem PySem.W PyProof.Rows PySem.Spec PySem.Calls
set_option maxRecDepth 100000
set_option maxHeartbeats 8000000
open_top hd for PySem.Challenge.rw_mr0273_01
abbrev MM (w : World) : Model := model PySem.Challenge.rw_mr0273_01.row.prog w
end
end Mine
section
open PySem PySem.W PyProof.Rows PySem.Spec PySem.Calls
set_option maxRecDepth 100000
set_option maxHeartbeats 1000000
namespace Mine
/-- a post with a name of its own: the walk does not carry what stands behind it -/
def Post (R : Flow → Shared → Prop) (f : Flow) (s : Shared) : Prop := R f s
/-- the same for a value's post -/
def PostV (R : Value → Shared → Prop) (v : Value) (s : Shared) : Prop := R v s
structure PTo (Q R : Flow → Shared → Prop) : Prop where
  to : ∀ f s, Q f s → R f s
structure KN (M : Model) (A : Around) (rest : List Stmt) (env : Env) (Q : Flow → Shared → Prop) (E : Value → Shared → Prop) (R : Flow → Shared → Prop) : Prop where
  to : ∀ s', wpAny M A (execs rest env) Q E s' → R .next s'
structure KO (Q R : Flow → Shared → Prop) : Prop where
  to : ∀ f s', f ≠ .next → Q f s' → R f s'
section
variable {M : Model} {A : Around} {E : Value → Shared → Prop} {s : Shared} {st : Stmt} {rest : List Stmt} {env : Env} {Q R : Flow → Shared → Prop} {v : Value} {f : Flow} {t : Sem Flow}
theorem abs_QE (hp : PassesOwn M A env E) (h : ∀ R E2, PTo Q R → PassesOwn M A env E2 → wpAny M A t (Post R) E2 s) : wpAny M A t Q E s := h Q E ⟨fun _ _ x => x⟩ hp
theorem abs_Q (h : ∀ R, PTo Q R → wpAny M A t (Post R) E s) : wpAny M A t Q E s := h Q ⟨fun _ _ x => x⟩
theorem post_to (h : PTo Q R) (k : Q f s) : Post R f s := h.to f s k
theorem execs_abs (h : ∀ R, KN M A rest env Q E R → KO Q R → wpAny M A (exec st env) (Post R) E s) : wpAny M A (execs (st :: rest) env) Q E s :=
  wpAny_execs_cons (h _ ⟨fun _ k => k⟩ ⟨fun f s' hf k => by cases f <;> first | exact absurd rfl hf | exact k⟩)
theorem execs_one (h : wpAny M A (exec st env) Q E s) : wpAny M A (execs [st] env) Q E s :=
  wpAny_execs_cons (wpAny_mono h (fun f s' k => by cases f <;> first | exact wpAny_execs_nil k | exact k) fun _ _ h => h)
theorem post_next (h : KN M A rest env Q E R) (k : wpAny M A (execs rest env) Q E s) : Post R .next s := h.to s k
theorem post_ret (h : KO Q R) (k : Q (.ret v) s) : Post R (.ret v) s := h.to _ s nofun k
theorem post_brk (h : KO Q R) (k : Q .brk s) : Post R .brk s := h.to _ s nofun k
theorem post_cont (h : KO Q R) (k : Q .cont s) : Post R .cont s := h.to _ s nofun k
end
section
variable {prog : Program} {w : World} {A : Around} {E : Value → Shared → Prop} {Q : Flow → Shared → Prop} {s : Shared} {env : Env} {h₀ : Heap} {L : Addr}
theorem ksw_whileR {σ : Type} {test : Expr} {body : List Stmt} {pos : Pos} {m₀ : Str → Option Value} (Led : σ → List (Addr × Obj)) (ps : σ → List (Str × Value)) (Facts : σ → Prop) (stored : List Str) (P : σ → Prop) (μ : σ → Nat) (c₀ : σ)
    (F : Fr h₀ L s.heap m₀) (N : News h₀ L s.heap (Led c₀)) (hf : Facts c₀) (hk : ∀ p ∈ ps c₀, m₀ p.1 = some p.2) (hp : P c₀)
    (turn : ∀ (c : σ) (u : Str → Option Value) h tk R, PTo (KswPost h₀ L s Led ps Facts stored m₀ P μ Q c) R → Facts c → P c → Fr h₀ L h (kstB (fun z => if stored.contains z then u z else m₀ z) (ps c)) → News h₀ L h (Led c) →
      wpAny (model prog w) A (isTrue test env (eval test env)) (fun b s₂ =>
        if b = true then wpAny (model prog w) A (execs body env) (Post R) E s₂ else Q .next s₂) E { s with heap := h, toks := tk })
    (hE : PassesOwn (model prog w) A env E) :
    wpAny (model prog w) A (exec (.While test body [] pos) env) Q E s :=
  ksw_while Led ps Facts stored P μ c₀ F N hf hk hp (fun c u h tk a b d e => turn c u h tk _ ⟨fun _ _ x => x⟩ a b d e) hE
end
end Mine
end
section
open PySem PySem.W PyProof.Rows PySem.Spec PySem.Calls
set_option maxRecDepth 100000
set_option maxHeartbeats 1000000
namespace Mine
abbrev tup (x i : Int) (t u : Tok) (n : Nat) : Obj := { cls := .type "tuple", data := .seq #[.int x t, .int i u] n }

theorem tup_lt_meets (l b : Addr) (x i y j : Int) (tx ti ty tj : Tok) (n n2 : Nat) :
    Meets (Builtin.«tuple.__lt__» ⟨[.ref l, .ref b], []⟩)
      (fun A R s => s.heap.get? l = some (tup x i tx ti n) ∧ s.heap.get? b = some (tup y j ty tj n2) ∧
        R (.ok (.ret (.bool (decide (x < y ∨ x = y ∧ i < j))))) s) :=
  .of_wp fun prog w A R s h => by
    obtain ⟨hp, g, d, tk, os⟩ := s; obtain ⟨hl, hb, h⟩ := h
    have f2 := AutoSeq1.sub_tuple_tuple
    wp_walk using wpAny_loadPart' hl, wpAny_loadPart' hb, wpAny_forIn_list _ (fun rest b s' => b.1 = none ∧ s' = ⟨hp, g, d, tk, os⟩ ∧
      ((rest = [(Value.int x tx, Value.int y ty), (Value.int i ti, Value.int j tj)]) ∨ (x = y ∧ rest = [(Value.int i ti, Value.int j tj)]) ∨ (x = y ∧ i = j ∧ rest = []))) _
    case turn =>
      rintro ⟨p, q⟩ rest b s' ⟨hb', rfl, hz⟩
      rcases hz with hz | ⟨e, hz⟩ | ⟨_, _, hz⟩
      · injection hz with h1 h2
        injection h1 with h3 h4
        subst h3 h4
        refine wpAny_bind (wpAny_eqBool_int ?_)
        by_cases e : x = y
        · subst e
          simp only [beq_self_eq_true]
          wp_walk
          exact ⟨by simp, by simp, .inr (.inl ⟨by simp, by simpa using h2⟩)⟩
        · have e' : (x == y) = false := by simpa using e
          rw [e']
          refine (show wpAny _ _ (do rule "tuple.compare.by-the-first-pair-that-differs"; let r ← richCompare CmpOp.Lt _ _; let r ← ret r; pure (ForInStep.done (some r, ()))) _ _ _ from ?_)
          refine wpAny_bind (wpAny_rule (wpAny_bind (PyProof.Rows.lt_int ?_)))
          refine wpAny_bind (wpAny_pure (wpAny_pure ?_))
          refine wpAny_pure (show ∃ v, _ ∧ _ from ⟨_, rfl, ?_⟩)
          have : decide (x < y ∨ x = y ∧ i < j) = decide (x < y) := by simp [e]
          rw [this] at h
          exact h
      · injection hz with h1 h2
        injection h1 with h3 h4
        subst h3 h4 e
        refine wpAny_bind (wpAny_eqBool_int ?_)
        by_cases e : i = j
        · subst e
          simp only [beq_self_eq_true]
          wp_walk
          exact ⟨by simp, by simp, .inr (.inr ⟨by simp, by simp, by simpa using h2⟩)⟩
        · have e' : (i == j) = false := by simpa using e
          rw [e']
          refine (show wpAny _ _ (do rule "tuple.compare.by-the-first-pair-that-differs"; let r ← richCompare CmpOp.Lt _ _; let r ← ret r; pure (ForInStep.done (some r, ()))) _ _ _ from ?_)
          refine wpAny_bind (wpAny_rule (wpAny_bind (PyProof.Rows.lt_int ?_)))
          refine wpAny_bind (wpAny_pure (wpAny_pure ?_))
          refine wpAny_pure (show ∃ v, _ ∧ _ from ⟨_, rfl, ?_⟩)
          have : decide (x < x ∨ x = x ∧ i < j) = decide (i < j) := by simp
          rw [this] at h
          exact h
      · cases hz
    case fin =>
      rintro ⟨b1, b2⟩ s' ⟨hb', rfl, hz⟩
      simp only at hb'
      subst hb'
      rcases hz with hz | ⟨e, hz⟩ | ⟨rfl, rfl, _⟩
      · cases hz
      · cases hz
      · wp_walk
        refine ⟨_, rfl, ?_⟩
        have : decide (x < x ∨ x = x ∧ i < i) = false := by simp
        rw [this] at h
        simpa [Builtin.Tuple.tupleCompareSizes] using h
    case h =>
      exact ⟨rfl, rfl, .inl rfl⟩

section
variable {prog : Program} {w : World} {A : Around} {E : Value → Shared → Prop} {s : Shared}
theorem lt_tup {l b : Addr} {x i y j : Int} {tx ti ty tj : Tok} {n n2 : Nat} {Q : Value → Shared → Prop} (hl : s.heap.get? l = some (tup x i tx ti n)) (hb : s.heap.get? b = some (tup y j ty tj n2)) (hu : A.units < cLine)
    (h : Q (.bool (decide (x < y ∨ x = y ∧ i < j))) s) : wpAny (model prog w) A (compareOp .Lt (.ref l) (.ref b)) Q E s := by
  show wpAny _ _ (richCompare .Lt (.ref l) (.ref b)) Q E s
  exact richCompare_meets_room (op := .Lt) ⟨_, hl, rfl⟩ ⟨_, hb, rfl⟩ F.slot_tuple_lt F.entry_tuple_lt (F.args_tuple_lt_2 _ _) (tup_lt_meets l b x i y j tx ti ty tj n n2)
    ⟨hl, hb, show Value.bool _ ≠ Value.notImplemented ∧ Q (.bool _) s from ⟨(fun x => nomatch x), h⟩⟩ hu
end
end Mine
end
section
open PySem PySem.W PyProof.Rows PySem.Spec PySem.Calls
set_option maxRecDepth 100000
set_option maxHeartbeats 1000000
namespace Mine
structure C where
  a : Addr
  x : Int
  i : Int
def C.key (c : C) : Int := 100 * c.x + c.i
def vals (cs : List C) : List Value := cs.map fun c => .ref c.a
def cat (cs : List C) (k : Nat) : C := cs.getD k ⟨0, 0, 0⟩
def HeldC (news : List (Addr × Obj)) (c : C) : Prop := (∃ t u n, (c.a, tup c.x c.i t u n) ∈ news) ∧ -50 < c.i ∧ c.i < 50
def Held (news : List (Addr × Obj)) (cs : List C) : Prop := ∀ c ∈ cs, HeldC news c

theorem cat_mem {cs : List C} {k : Nat} (h : k < cs.length) : cat cs k ∈ cs := by
  unfold cat
  rw [List.getD_eq_getElem?_getD, List.getElem?_eq_getElem h]
  exact List.getElem_mem h
theorem cat_set {cs : List C} {k : Nat} {c : C} (h : k < cs.length) : cat (cs.set k c) k = c := by
  unfold cat
  rw [List.getD_eq_getElem?_getD, List.getElem?_set_self h]
  rfl
theorem Held.at {news : List (Addr × Obj)} {cs : List C} (H : Held news cs) {k : Nat} (h : k < cs.length) : HeldC news (cat cs k) := H _ (cat_mem h)
theorem Held.set {news : List (Addr × Obj)} {cs : List C} (H : Held news cs) {c : C} (hc : HeldC news c) (k : Nat) : Held news (cs.set k c) := fun d hd => by
  rcases List.mem_or_eq_of_mem_set hd with h | h
  · exact H d h
  · exact h ▸ hc
theorem HeldC.more {news : List (Addr × Obj)} {c : C} (H : HeldC news c) (p : Addr × Obj) : HeldC (p :: news) c := by
  obtain ⟨⟨t, u, n, hm⟩, h⟩ := H
  exact ⟨⟨t, u, n, .tail _ hm⟩, h⟩
theorem HeldC.sub {news news' : List (Addr × Obj)} {c : C} (H : HeldC news c) (hs : ∀ p ∈ news, p ∈ news') : HeldC news' c := by
  obtain ⟨⟨t, u, n, hm⟩, h⟩ := H
  exact ⟨⟨t, u, n, hs _ hm⟩, h⟩
theorem vals_set (cs : List C) (k : Nat) (c : C) : (vals cs).set k (.ref c.a) = vals (cs.set k c) := by
  unfold vals; rw [List.map_set]
theorem vals_len (cs : List C) : (vals cs).length = cs.length := by unfold vals; rw [List.length_map]

section
variable {prog : Program} {w : World} {A : Around} {E : Value → Shared → Prop} {s : Shared} {h₀ : Heap} {L D : Addr} {m : Str → Option Value} {news news' : List (Addr × Obj)} {cs : List C} {n : Nat} {k : Int} {t u : Tok}
theorem c_hx (cs : List C) {k : Nat} (h : k < cs.length) : (vals cs).toArray[k]? = some (.ref (cat cs k).a) := by
  unfold cat vals
  rw [List.getElem?_toArray, List.getElem?_map, List.getD_eq_getElem?_getD, List.getElem?_eq_getElem h]
  rfl
theorem c_get {Q : Value → Shared → Prop} (N : News h₀ L s.heap news) (hm : (D, listOf (vals cs).toArray n) ∈ news) (h0 : 0 ≤ k) (h1 : k < cs.length) (hfit : k < 2 ^ 63) (h : Q (.ref (cat cs k.toNat).a) s) :
    wpAny (model prog w) A (getItem (.ref D) (.int k u)) Q E s :=
  wpAny_getItem_list (PySem.IsL.isList (n := n) (N _ hm).1) h0 hfit (c_hx cs (by omega)) h
theorem c_sub {value slice : PySem.Expr} {Q : Value → Shared → Prop} (N : News h₀ L s.heap news) (hm : (D, listOf (vals cs).toArray n) ∈ news) (h0 : 0 ≤ k) (h1 : k < cs.length) (hfit : k < 2 ^ 63) (h : Q (.ref (cat cs k.toNat).a) s)
    (hs : subscripted slice false (.ref D) (.int k u) = operate [.ref D, .int k u] (getItem (.ref D) (.int k u)) := by with_unfolding_all rfl) :
    wpAny (model prog w) A (subscriptTail value slice (.ref D) (.int k u)) Q E s :=
  have hl := PySem.IsL.isList (n := n) (N _ hm).1
  tail_any hl.typeIs slot_list_getitem.lookup (c_get N hm h0 h1 hfit h) hs
theorem c_subN {value slice : PySem.Expr} {j : Nat} {Q : Value → Shared → Prop} (N : News h₀ L s.heap news) (hm : (D, listOf (vals cs).toArray n) ∈ news) (h1 : j < cs.length) (hfit : j < 1000) (h : Q (.ref (cat cs j).a) s)
    (hs : subscripted slice false (.ref D) (.int (j : Int) u) = operate [.ref D, .int (j : Int) u] (getItem (.ref D) (.int (j : Int) u)) := by with_unfolding_all rfl) :
    wpAny (model prog w) A (subscriptTail value slice (.ref D) (.int (j : Int) u)) Q E s :=
  c_sub N hm (by omega) (by omega) (by omega) h hs
theorem c_set {c : C} {rest : List (Addr × Obj)} {Q : Unit → Shared → Prop} (F : Fr h₀ L s.heap m) (N : News h₀ L s.heap ((D, listOf (vals cs).toArray n) :: rest)) (hD : ∀ p ∈ rest, p.1 ≠ D) (h0 : 0 ≤ k) (h1 : k < cs.length) (hfit : k < 2 ^ 63)
    (h : ∀ h', Fr h₀ L h' m → News h₀ L h' ((D, listOf (vals (cs.set k.toNat c)).toArray n) :: rest) → Q () { s with heap := h' }) :
    wpAny (model prog w) A (setItem (.ref D) (.int k t) (.ref c.a)) Q E s := by
  have z := N (D, listOf (vals cs).toArray n) (.head _)
  refine ki_setAt z.1 h0 hfit (by rw [List.size_toArray, vals_len]; exact h1) (h _ (F.change (Heap.SameBut.update ..) z.2.1 z.2.2) (ki_turn (pre := []) _ N (fun _ h => nomatch h) hD ?_ ?_))
  · show (vals cs).toArray.setIfInBounds k.toNat (.ref c.a) = (vals (cs.set k.toNat c)).toArray
    rw [← vals_set]
    apply Array.toList_inj.mp
    simp
  · simp [vals_len]
theorem c_setN {c : C} {j : Nat} {rest : List (Addr × Obj)} {Q : Unit → Shared → Prop} (F : Fr h₀ L s.heap m) (N : News h₀ L s.heap ((D, listOf (vals cs).toArray n) :: rest)) (hD : ∀ p ∈ rest, p.1 ≠ D) (h1 : j < cs.length) (hfit : j < 1000)
    (h : ∀ h', Fr h₀ L h' m → News h₀ L h' ((D, listOf (vals (cs.set j c)).toArray n) :: rest) → Q () { s with heap := h' }) :
    wpAny (model prog w) A (setItem (.ref D) (.int (j : Int) t) (.ref c.a)) Q E s :=
  c_set F N hD (by omega) (by omega) (by omega) h
theorem c_lt {c d : C} {Q : Value → Shared → Prop} (N : News h₀ L s.heap news) (hc : HeldC news c) (hd : HeldC news d) (hu : A.units < cLine) (h : Q (.bool (decide (c.key < d.key))) s) :
    wpAny (model prog w) A (compareOp .Lt (.ref c.a) (.ref d.a)) Q E s := by
  obtain ⟨⟨t, u, n, hm⟩, h1, h2⟩ := hc
  obtain ⟨⟨t', u', n', hm'⟩, h3, h4⟩ := hd
  refine lt_tup (N _ hm).1 (N _ hm').1 hu ?_
  have : decide (c.x < d.x ∨ c.x = d.x ∧ c.i < d.i) = decide (c.key < d.key) := by
    apply decide_eq_decide.mpr
    unfold C.key
    omega
  rw [this]
  exact h
end

theorem half {q : Nat} (h : 0 < q) : ((q : Int) - 1).fdiv (2 ^ Int.toNat 1) = (((q - 1) / 2 : Nat) : Int) := by
  rw [Int.fdiv_eq_ediv_of_nonneg _ (by decide)]
  show ((q : Int) - 1) / 2 = _
  omega
theorem c_rsh {prog : Program} {w : World} {A : Around} {E : Value → Shared → Prop} {s : Shared} {q : Nat} {t u : Tok} {Q : Value → Shared → Prop} (hq : 0 < q) (h : Q (.int (((q - 1) / 2 : Nat) : Int) s.toks) { s with toks := s.toks + 1 }) :
    wpAny (model prog w) A (binaryOp .RShift (.int ((q : Int) - 1) t) (.int 1 u)) Q E s :=
  rshift_int (by decide) (by rw [half hq]; exact h)

def ltMin (c d : C) : Bool := decide (c.key < d.key)
def ltMax (c d : C) : Bool := decide (d.key < c.key)
/-- what the loop of _siftdown makes of the list (lt: the order, sp: the start, c: the new item) -/
inductive SD (lt : C → C → Bool) (sp : Nat) (c : C) : List C → Nat → List C → Prop where
  | stop {cs p} : ¬ (sp < p) → SD lt sp c cs p (cs.set p c)
  | brk {cs p} : sp < p → lt c (cat cs ((p - 1) / 2)) = false → SD lt sp c cs p (cs.set p c)
  | up {cs p r} : sp < p → lt c (cat cs ((p - 1) / 2)) = true → SD lt sp c (cs.set p (cat cs ((p - 1) / 2))) ((p - 1) / 2) r → SD lt sp c cs p r

def pick (lt : C → C → Bool) (e : Nat) (cs : List C) (k : Nat) : Nat := if k + 1 < e ∧ lt (cat cs k) (cat cs (k + 1)) = false then k + 1 else k
/-- what the loop of _siftup makes of the list and the place -/
inductive SU (lt : C → C → Bool) (e : Nat) : List C → Nat → List C → Nat → Prop where
  | stop {cs p} : ¬ (2 * p + 1 < e) → SU lt e cs p cs p
  | go {cs p r q} : 2 * p + 1 < e → SU lt e (cs.set p (cat cs (pick lt e cs (2 * p + 1)))) (pick lt e cs (2 * p + 1)) r q → SU lt e cs p r q
def Sift (lt : C → C → Bool) (xs : List C) (p : Nat) (r : List C) : Prop := ∃ ys q, SU lt xs.length xs p ys q ∧ SD lt p (cat xs p) (ys.set q (cat xs p)) q r
theorem SD.len {lt : C → C → Bool} {sp : Nat} {c : C} {cs : List C} {p : Nat} {r : List C} (h : SD lt sp c cs p r) : r.length = cs.length := by
  induction h with
  | stop _ => exact List.length_set ..
  | brk _ _ => exact List.length_set ..
  | up _ _ _ ih => rw [ih, List.length_set]
theorem SU.len {lt : C → C → Bool} {e : Nat} {cs : List C} {p : Nat} {r : List C} {q : Nat} (h : SU lt e cs p r q) : r.length = cs.length := by
  induction h with
  | stop _ => rfl
  | go _ _ ih => rw [ih, List.length_set]
theorem Sift.len {lt : C → C → Bool} {xs : List C} {p : Nat} {r : List C} (h : Sift lt xs p r) : r.length = xs.length := by
  obtain ⟨ys, q, h1, h2⟩ := h
  rw [h2.len, List.length_set, h1.len]
theorem SD.held {news : List (Addr × Obj)} {lt : C → C → Bool} {sp : Nat} {c : C} {cs : List C} {p : Nat} {r : List C} (h : SD lt sp c cs p r) (hp : p < cs.length) (hc : HeldC news c) : Held news cs → Held news r := by
  induction h with
  | stop _ => exact fun H => H.set hc _
  | brk _ _ => exact fun H => H.set hc _
  | up h1 _ _ ih => exact fun H => ih (by rw [List.length_set]; omega) (H.set (H.at (by omega)) _)
theorem SU.held {news : List (Addr × Obj)} {lt : C → C → Bool} {e : Nat} {cs : List C} {p : Nat} {r : List C} {q : Nat} (h : SU lt e cs p r q) (he : e = cs.length) (hp : p < cs.length) : Held news cs → Held news r ∧ q < cs.length := by
  induction h with
  | stop _ => exact fun H => ⟨H, hp⟩
  | @go cs p r q h1 _ ih =>
    intro H
    have hj : pick lt e cs (2 * p + 1) < cs.length := by
      unfold pick
      split <;> omega
    have := ih (by rw [List.length_set]; exact he) (by rw [List.length_set]; exact hj) (H.set (H.at hj) _)
    rw [List.length_set] at this
    exact this
theorem Sift.held {news : List (Addr × Obj)} {lt : C → C → Bool} {xs : List C} {p : Nat} {r : List C} (h : Sift lt xs p r) (hp : p < xs.length) (H : Held news xs) : Held news r := by
  obtain ⟨ys, q, h1, h2⟩ := h
  obtain ⟨H1, hq⟩ := h1.held rfl hp H
  exact h2.held (by rw [List.length_set, h1.len]; exact hq) (H.at hp) (H1.set (H.at hp) _)
theorem pick_r {lt : C → C → Bool} {e : Nat} {cs : List C} {k : Nat} (h : k + 1 < e) (h2 : lt (cat cs k) (cat cs (k + 1)) = false) : pick lt e cs k = k + 1 := if_pos ⟨h, h2⟩
theorem pick_l {lt : C → C → Bool} {e : Nat} {cs : List C} {k : Nat} (h2 : lt (cat cs k) (cat cs (k + 1)) = true) : pick lt e cs k = k := if_neg fun h => by rw [h2] at h; exact absurd h.2 (by decide)
theorem pick_o {lt : C → C → Bool} {e : Nat} {cs : List C} {k : Nat} (h : ¬ k + 1 < e) : pick lt e cs k = k := if_neg fun h' => h h'.1
theorem SU.go' {lt : C → C → Bool} {e : Nat} {cs : List C} {p j : Nat} {r : List C} {q : Nat} (h : 2 * p + 1 < e) (hj : pick lt e cs (2 * p + 1) = j) (hr : SU lt e (cs.set p (cat cs j)) j r q) : SU lt e cs p r q := SU.go h (hj ▸ hr)

section
variable {prog : Program} {w : World} {A : Around} {E : Value → Shared → Prop} {s : Shared} {q : Nat} {t u : Tok} {Q : Value → Shared → Prop}
theorem c_add1 (h : Q (.int ((q + 1 : Nat) : Int) s.toks) { s with toks := s.toks + 1 }) : wpAny (model prog w) A (binaryOp .Add (.int (q : Int) t) (.int 1 u)) Q E s :=
  add_int (by rw [show (q : Int) + 1 = ((q + 1 : Nat) : Int) by omega]; exact h)
theorem c_mul2 (h : Q (.int ((2 * q : Nat) : Int) s.toks) { s with toks := s.toks + 1 }) : wpAny (model prog w) A (binaryOp .Mult (.int 2 t) (.int (q : Int) u)) Q E s :=
  mul_int (by rw [show 2 * (q : Int) = ((2 * q : Nat) : Int) by omega]; exact h) (IntMulOk.of_left (by decide))
theorem c_len {h₀ : Heap} {L D : Addr} {news : List (Addr × Obj)} {cs : List C} {n : Nat} (N : News h₀ L s.heap news) (hm : (D, listOf (vals cs).toArray n) ∈ news) (hz : cs.length < 1000) (h : Q (.int (cs.length : Nat) (s.toks + 1)) { s with toks := s.toks + 1 + 1 }) :
    wpAny (model prog w) A (call (.builtin "len") [.ref D]) Q E s :=
  len_list (PySem.IsL.isList (n := n) (N _ hm).1) (by rw [List.size_toArray, vals_len]; omega) (by rw [List.size_toArray, vals_len]; exact h)
theorem c_len6 {h₀ : Heap} {L D : Addr} {news : List (Addr × Obj)} {cs : List C} {n : Nat} (N : News h₀ L s.heap news) (hm : (D, listOf (vals cs).toArray n) ∈ news) (hz : cs.length = 6) (h : Q (.int 6 (s.toks + 1)) { s with toks := s.toks + 1 + 1 }) :
    wpAny (model prog w) A (call (.builtin "len") [.ref D]) Q E s :=
  c_len N hm (by omega) (by rw [hz]; exact h)
end
end Mine
end
section
open PySem PySem.W PyProof.Rows PySem.Spec PySem.Calls
set_option maxRecDepth 100000
set_option maxHeartbeats 1000000
namespace Mine
abbrev rgIt (x left step : Int) : Obj := { cls := .type "range_iterator", data := .fields #[rawInt x, rawInt left, rawInt step] }
def LI (o : Obj) (l : Addr) (k : Nat) : Prop := o.cls = .type "list_iterator" ∧ o.data = .fields #[.ref l, .int k 0]
theorem sub_rgit_reversed : isSubtype (.type "range_iterator") (.type "reversed") = pure false := by rw [isSubtype_type]; kernel_rfl

theorem fr_ext {h₀ h h' : Heap} {L I : Addr} {m : Str → Option Value} (F : Fr h₀ L h m) (hx : Heap.ExtBut I h h') (hL : I ≠ L) (h0 : h₀.get? I = none) : Fr h₀ L h' m :=
  ⟨F.ns.extBut hx hL.symm, fun c x e => hx c x (by rintro rfl; rw [h0] at e; cases e) (F.keep c x e), F.above⟩
theorem news_ext {h₀ h h' : Heap} {L I : Addr} {news : List (Addr × Obj)} (N : News h₀ L h news) (hx : Heap.ExtBut I h h') (hn : ∀ p ∈ news, p.1 ≠ I) : News h₀ L h' news :=
  fun p hp => ⟨hx _ _ (hn p hp) (N p hp).1, (N p hp).2⟩

theorem news_swap {h₀ h : Heap} {L : Addr} {a b : Addr × Obj} {r : List (Addr × Obj)} (N : News h₀ L h (a :: b :: r)) : News h₀ L h (b :: a :: r) := fun p hp => by
  rcases List.mem_cons.mp hp with rfl | hp
  · exact N _ (.tail _ (.head _))
  · rcases List.mem_cons.mp hp with rfl | hp
    · exact N _ (.head _)
    · exact N _ (.tail _ (.tail _ hp))

section
variable {prog : Program} {w : World} {A : Around} {E : Value → Shared → Prop} {s : Shared} {h₀ : Heap} {L : Addr} {m : Str → Option Value} {rest : List (Addr × Obj)}
theorem range_rev {r : Addr} {t u v : Tok} {Q : Value → Shared → Prop} (hr : IsRange s.heap r 0 3 1 t u v)
    (h : Q (.ref s.heap.objs.size) { s with heap := s.heap.push (rgIt 2 3 (-1)) }) : wpAny (model prog w) A (call (.builtin "range.__reversed__") [.ref r]) Q E s := by
  have hT : s.TypeIs (.ref r) "range" := ⟨_, hr, rfl⟩
  refine wpAny_call_entry F.slot_range_reversed hT F.entry_range_reversed ?_ (F.args_range_reversed_1 _)
  unfold Builtin.«range.__reversed__»
  refine wpAny_bind (wpAny_of_eq (a := Value.ref r) rfl ?_)
  refine wpAny_bind ?_
  unfold Builtin.Range.rangeFields
  refine wpAny_bind (wpAny_field hr rfl (x := .int 0 t) rfl (wpAny_bind (wpAny_of_eq (a := some 0) rfl ?_)))
  refine wpAny_bind (wpAny_field hr rfl (x := .int 3 u) rfl (wpAny_bind (wpAny_of_eq (a := some 3) rfl ?_)))
  refine wpAny_bind (wpAny_field hr rfl (x := .int 1 v) rfl (wpAny_bind (wpAny_of_eq (a := some 1) rfl ?_)))
  refine wpAny_pure ?_
  show wpAny _ _ (newFields "range_iterator" [rawInt 2, rawInt 3, rawInt (-1)] >>= _) _ _ _
  exact wpAny_bind (wpAny_newObj_type (wpAny_pure ⟨_, rfl, h⟩))
theorem code_rev_range {r : Addr} {t u v : Tok} {Q₁ : Value → Shared → Prop} (hr : IsRange s.heap r 0 3 1 t u v)
    (h : Q₁ (.ref s.heap.objs.size) { s with heap := s.heap.push (rgIt 2 3 (-1)) }) :
    codeAny (model prog w) A (.call (.builtin "reversed.__new__") ⟨[.type "reversed", .ref r], []⟩) (wants Q₁ E) s := by
  have hT : s.TypeIs (.ref r) "range" := ⟨_, hr, rfl⟩
  refine codeAny_of_tree ?_
  show wpAny _ A.in1 (do checkBuiltinCall "reversed.__new__" ⟨[.type "reversed", .ref r], []⟩; again (.builtin "reversed.__new__" ⟨[.type "reversed", .ref r], []⟩)) _ _ s
  refine wpAny_bind (wpAny_of_eq (F.newCall_reversed_1 _) (wpAny_pure ⟨plainId_quiet F.plain_reversed_new _, codeAny_builtin F.entry_reversed_new ?_⟩))
  rw [Around.under_plainId F.plain_reversed_new _]
  unfold Builtin.«reversed.__new__»
  refine wpAny_bind (wpAny_of_eq (newClass_reversed _) ?_)
  refine wpAny_bind (wpAny_of_eq (a := ()) (by first | rfl | kernel_rfl) ?_)
  refine wpAny_bind (wpAny_of_eq (a := ()) (by first | rfl | kernel_rfl) ?_)
  refine wpAny_bind (wpAny_specialOf hT F.slot_range_reversed.lookup ?_)
  refine wpAny_bind (wpAny_of_eq (F.slot_range_reversed.bind _) ?_)
  show wpAny _ _ (if (Value.builtin "range.__reversed__" == Value.none) = true then _ else _) _ _ _
  rw [if_neg (show ¬ ((Value.builtin "range.__reversed__" == Value.none) = true) from Bool.false_ne_true)]
  refine wpAny_bind (wpAny_rule ?_)
  refine wpAny_bind (m := runValue (.call (.builtin "range.__reversed__") ⟨[.ref r], []⟩)) (show wpAny _ _ (call (.builtin "range.__reversed__") [.ref r]) _ _ _ from range_rev hr ?_)
  first
  | exact wpAny_pure h
  | exact wpAny_bind (wpAny_pure (wpAny_pure h))
theorem call_rev_range {r : Addr} {t u v : Tok} {Q : Value → Shared → Prop} (Fm : Fr h₀ L s.heap m) (N : News h₀ L s.heap rest) (hr : IsRange s.heap r 0 3 1 t u v)
    (h : ∀ h' I, Fr h₀ L h' m → News h₀ L h' ((I, rgIt 2 3 (-1)) :: rest) → (∀ p ∈ rest, p.1 < I) → Q (.ref I) { s with heap := h' }) : wpAny (model prog w) A (call (.type "reversed") [.ref r]) Q E s := by
  refine callType_other (U := "range_iterator") (Q₁ := fun obj s₁ => obj = .ref s.heap.objs.size ∧ s₁ = { s with heap := s.heap.push (rgIt 2 3 (-1)) }) (by decide +kernel) F.create_reversed ⟨_, _, F.mro_reversed⟩ F.made_reversed sub_rgit_reversed (F.typeCall_reversed_1 _) (code_rev_range hr ⟨rfl, rfl⟩) ?_
  rintro obj s₁ ⟨rfl, rfl⟩
  exact ⟨⟨_, Heap.get?_push_size _ rfl, rfl⟩, h _ _ (Fm.push _) (N.push Fm _) (fun p hp => Heap.lt_size (N p hp).1)⟩

theorem next_range {I : Addr} {x left step : Int} (x' left' : Int) {Q : Option Value → Shared → Prop} (F : Fr h₀ L s.heap m) (N : News h₀ L s.heap ((I, rgIt x left step) :: rest)) (hD : ∀ p ∈ rest, p.1 ≠ I) (hl : 0 < left) (e1 : x + step = x') (e2 : left - 1 = left')
    (h : ∀ h', Fr h₀ L h' m → News h₀ L h' ((I, rgIt x' left' step) :: rest) → Q (some (.int x s.toks)) { s with heap := h', toks := s.toks + 1 }) :
    wpAny (model prog w) A (pyNext (.ref I)) Q E s := by
  subst e1 e2
  have z := N _ (.head _)
  exact wpAny_pyNext_range_item z.1 hl fun h' hi hs => h h' (F.change hs z.2.1 z.2.2) (news_set (pre := []) N (fun _ h => nomatch h) hD hs hi)
theorem next_range_end {I : Addr} {x left step : Int} {Q : Option Value → Shared → Prop} (hh : A.handled = none) (F : Fr h₀ L s.heap m) (N : News h₀ L s.heap ((I, rgIt x left step) :: rest)) (hD : ∀ p ∈ rest, p.1 ≠ I) (hl : left ≤ 0)
    (h : ∀ h', Fr h₀ L h' m → News h₀ L h' rest → Q none { s with heap := h' }) :
    wpAny (model prog w) A (pyNext (.ref I)) Q E s := by
  have z := N _ (.head _)
  refine wpAny_pyNext_range_end hh z.1 hl fun h' hx => h h' ?_ ?_
  · exact fr_ext F hx z.2.1 z.2.2
  · exact news_ext (fun p hp => N p (.tail _ hp)) hx hD
theorem next_list {I l : Addr} {oI : Obj} {k : Nat} {items : Array Value} {x : Value} {Q : Option Value → Shared → Prop} (F : Fr h₀ L s.heap m) (N : News h₀ L s.heap ((I, oI) :: rest)) (hI : LI oI l k) (hD : ∀ p ∈ rest, p.1 ≠ I) (hl : s.heap.IsList l items) (hx : items[k]? = some x)
    (h : ∀ h' oI', Fr h₀ L h' m → News h₀ L h' ((I, oI') :: rest) → LI oI' l (k + 1) → Q (some x) { s with heap := h' }) :
    wpAny (model prog w) A (pyNext (.ref I)) Q E s := by
  have z := N _ (.head _)
  refine wpAny_pyNext_list_item ⟨_, z.1, hI⟩ hl hx fun h' hi hs => ?_
  obtain ⟨o, ho, hc⟩ := hi
  exact h h' o (F.change hs z.2.1 z.2.2) (news_set (pre := []) N (fun _ h => nomatch h) hD hs ho) hc
theorem next_list_end {I l : Addr} {oI : Obj} {k : Nat} {items : Array Value} {Q : Option Value → Shared → Prop} (hh : A.handled = none) (F : Fr h₀ L s.heap m) (N : News h₀ L s.heap ((I, oI) :: rest)) (hI : LI oI l k) (hD : ∀ p ∈ rest, p.1 ≠ I) (hl : s.heap.IsList l items) (hx : items[k]? = none)
    (h : ∀ h', Fr h₀ L h' m → News h₀ L h' rest → Q none { s with heap := h' }) :
    wpAny (model prog w) A (pyNext (.ref I)) Q E s := by
  have z := N _ (.head _)
  exact wpAny_pyNext_list_end hh ⟨_, z.1, hI⟩ hl hx fun h' hx => h h' (fr_ext F hx z.2.1 z.2.2) (news_ext (fun p hp => N p (.tail _ hp)) hx hD)
end

def FRest (M : Model) (A : Around) (E : Value → Shared → Prop) (env : Env) (target : Expr) (it : Value) (body : List Stmt) (Q : Flow → Shared → Prop) (s : Shared) : Prop :=
  codeAny M A (.forLoop target it body [] env) (fun r s' => match r with | .ok f => Q f s' | .error e => cameBackBy M A env E e s') s
def FPost (M : Model) (A : Around) (E : Value → Shared → Prop) (env : Env) (target : Expr) (it : Value) (body : List Stmt) (Q : Flow → Shared → Prop) (f : Flow) (s : Shared) : Prop :=
  match f with
  | .next => FRest M A E env target it body Q s
  | .cont => FRest M A E env target it body Q s
  | .brk => Q .next s
  | .ret v => Q (.ret v) s
def FTurn (M : Model) (A : Around) (E : Value → Shared → Prop) (env : Env) (target : Expr) (it : Value) (body : List Stmt) (Q : Flow → Shared → Prop) (r : Option Value) (s : Shared) : Prop :=
  match r with
  | none => Q .next s
  | some v => wpAny M A (assign target env v) (fun _ s₂ => wpAny M A (execs body env) (FPost M A E env target it body Q) E s₂) E s
theorem for_turn {prog : Program} {w : World} {A : Around} {E : Value → Shared → Prop} {s : Shared} {env : Env} {target : Expr} {it : Value} {body : List Stmt} {Q : Flow → Shared → Prop} (hE : PassesOwn (model prog w) A env E) (ht : ∀ v, letOwnedTupleGo target it v = pure ())
    (h : wpAny (model prog w) A (pyNext it) (FTurn (model prog w) A E env target it body Q) E s) : FRest (model prog w) A E env target it body Q s := by
  refine codeAny_of_tree ?_
  show wpAny _ A ((forTurn target it body [] env).onRaise (fun x => do noteFrame x env; theTreesLotGoes x)) _ _ s
  refine wpAny_noted ?_
  simp only [forTurn]
  refine wpAny_bind (wpAny_standAt (wpAny_bind (wpAny_onRaise (wpAny_mono h (fun r s₁ h₁ => ?_) fun _ _ h' => wpAny_standAt (hE _ _ h')))))
  cases r with
  | none => exact wpAny_pure ⟨rfl, codeAny_block (wpAny_execs_nil h₁)⟩
  | some v =>
    refine wpAny_bind (wpAny_of_eq (ht v) ?_)
    refine wpAny_bind (wpAny_mono h₁ (fun _ s₂ h₂ => wpAny_bind (wpAny_mono h₂ (fun f s₃ h₃ => ?_) hE)) hE)
    cases f with
    | next => exact wpAny_pure ⟨rfl, h₃⟩
    | cont => exact wpAny_pure ⟨rfl, h₃⟩
    | brk => exact wpAny_pure h₃
    | ret v => exact wpAny_pure h₃
theorem for_start {M : Model} {A : Around} {E : Value → Shared → Prop} {s : Shared} {env : Env} {target iter : Expr} {body : List Stmt} {pos : Pos} {Q : Flow → Shared → Prop}
    (h : wpAny M A (eval iter env) (fun x s₁ => wpAny M A (pyIter x) (fun it s₂ => FRest M A E env target it body Q s₂) E s₁) E s)
    (hs : ∀ x, foldedSetIterable iter env x = pure x := by intro _; rfl) : wpAny M A (exec (.For target iter body [] pos) env) Q E s := wpAny_For h hs
end Mine
end
section
open PySem PySem.W PyProof.Rows PySem.Spec PySem.Calls
set_option maxRecDepth 100000
set_option maxHeartbeats 1000000
namespace Mine
/-- the places of a zip over a range's iterator and a list's iterator, and the list, lie apart -/
structure ZA (z TI TO i1 i2 l : Addr) : Prop where
  a1 : TI ≠ z
  a2 : TO ≠ z
  a3 : i1 ≠ z
  a4 : i2 ≠ z
  a5 : TI ≠ TO
  a6 : TI ≠ i1
  a7 : TI ≠ i2
  a8 : TO ≠ i1
  a9 : TO ≠ i2
  b1 : i1 ≠ i2
  b2 : l ≠ z
  b3 : l ≠ TO
  b4 : l ≠ i1
  b5 : l ≠ i2

section
variable {prog : Program} {w : World} {A : Around} {E : Value → Shared → Prop} {s : Shared}
theorem nextOf_range {it : Addr} {x left step : Int} {Q : Value → Shared → Prop} (hit : IsRangeIter s.heap it x left step) (hleft : 0 < left)
    (hQ : ∀ h', IsRangeIter h' it (x + step) (left - 1) step → Heap.SameBut it s.heap h' → Q (.int x s.toks) { s with heap := h', toks := s.toks + 1 }) :
    wpAny (model prog w) A (Builtin.SmallTypes.nextOf (.ref it)) Q E s := by
  have hT : s.TypeIs (.ref it) "range_iterator" := ⟨_, hit, rfl⟩
  unfold Builtin.SmallTypes.nextOf
  refine wpAny_bind (wpAny_callSpecial?_slot (name := Str.ofString "__next__") hT F.slot_range_iterator_next
    (call_meets F.slot_range_iterator_next hT F.entry_range_iterator_next (F.args_range_iterator_next_1 _) (AutoRange.range_iterator___next___range_iterator_1 it x left step (by omega)) ⟨hit, ?_⟩))
  exact wpAny_pure (hQ _ (Heap.get?_update_self _ (Heap.get?_update_self _ hit rfl) rfl) ((Heap.SameBut.update ..).trans (Heap.SameBut.update ..)))
theorem nextOf_range_end {it : Addr} {x left step : Int} {Q : Value → Shared → Prop} (hh : A.handled = none) (hit : IsRangeIter s.heap it x left step) (hleft : left ≤ 0)
    (hE : ∀ h' e, Heap.ExtBut it s.heap h' → (∃ o, h'.get? e = some o ∧ o.cls = .type "StopIteration") → E (.ref e) { s with heap := h' }) :
    wpAny (model prog w) A (Builtin.SmallTypes.nextOf (.ref it)) Q E s := by
  have hT : s.TypeIs (.ref it) "range_iterator" := ⟨_, hit, rfl⟩
  unfold Builtin.SmallTypes.nextOf
  refine wpAny_bind (wpAny_callSpecial?_slot (name := Str.ofString "__next__") hT F.slot_range_iterator_next
    (wpAny_call_entry F.slot_range_iterator_next hT F.entry_range_iterator_next ?_ (F.args_range_iterator_next_1 _)))
  show wpAny _ _ (field (.ref it) 0 >>= _) _ _ s
  refine wpAny_bind (wpAny_field hit rfl (x := rawInt x) rfl ?_)
  show wpAny _ _ (field (.ref it) 1 >>= _) _ _ s
  refine wpAny_bind (wpAny_field hit rfl (x := rawInt left) rfl ?_)
  show wpAny _ _ (field (.ref it) 2 >>= _) _ _ s
  refine wpAny_bind (wpAny_field hit rfl (x := rawInt step) rfl ?_)
  show wpAny _ _ (if left ≤ 0 then _ else _) _ _ s
  rw [if_pos hleft]
  refine wpAny_bind (wpAny_rule ?_)
  refine wpAny_bind ?_
  show wpAny _ _ (newExc (.type "StopIteration") [] >>= _) _ _ _
  refine wpAny_bind ?_
  simp only [newExc, newTuple]
  refine wpAny_bind (wpAny_newObj_type ?_ (by size_fits))
  refine wpAny_bind (m := firstArgMember _ _) (wpAny_of_eq (a := Value.none) (by first | rfl | (simp only [firstArgMember]; rfl)) ?_)
  refine wpAny_newObj_type ?_ (by size_fits)
  simp only [raiseNew]
  refine wpAny_bind (wpAny_handled ?_)
  rw [show A.in1.handled = none from hh]
  exact wpAny_bind (wpAny_pure (wpAny_throw (hE _ _ (((Heap.ExtBut.refl it s.heap).push _).push _) ⟨_, Heap.get?_push_size _ rfl, rfl⟩)))
theorem zr_item {z TI TO i1 i2 l : Addr} {k : Nat} {r left step : Int} {ys : Array Value} {y a b : Value} {Q : Option Value → Shared → Prop} (D : ZA z TI TO i1 i2 l)
    (hz : IsZip s.heap z TI TO .none) (hTI : IsPair s.heap TI (.ref i1) (.ref i2)) (hTO : IsPair s.heap TO a b)
    (h1 : IsRangeIter s.heap i1 r left step) (hleft : 0 < left) (h2 : s.heap.IsListIter i2 l k) (hl : s.heap.IsList l ys) (hy : ys[k]? = some y)
    (hQ : ∀ h' tk, IsZip h' z TI TO (rawInt s.heap.objs.size) → IsPair h' TO (.int r s.toks) y → IsRangeIter h' i1 (r + step) (left - 1) step → h'.IsListIter i2 l (k + 1) → IsPair h' s.heap.objs.size (.int r s.toks) y → h'.objs.size = s.heap.objs.size + 1 →
      (∀ c o, c ≠ z → c ≠ TO → c ≠ i1 → c ≠ i2 → s.heap.get? c = some o → h'.get? c = some o) → Q (some (.ref s.heap.objs.size)) { s with heap := h', toks := tk }) :
    wpAny (model prog w) A (pyNext (.ref z)) Q E s := by
  have hT : s.TypeIs (.ref z) "zip" := ⟨_, hz, rfl⟩
  unfold pyNext
  refine wpAny_bind (wpAny_attempt (wpAny_callSpecial?_slot (name := Str.ofString "__next__") hT F.slot_zip_next
    (wpAny_call_entry F.slot_zip_next hT F.entry_zip_next ?_ (F.args_zip_next_1 _))))
  show wpAny _ _ (field (.ref z) 2 >>= _) _ _ _
  refine wpAny_bind (wpAny_field hz rfl (x := .bool false) rfl ?_)
  show wpAny _ _ (field (.ref z) 3 >>= _) _ _ _
  refine wpAny_bind (wpAny_field hz rfl (x := .ref TI) rfl ?_)
  refine wpAny_bind (wpAny_seqItems hTI rfl ?_)
  show wpAny _ _ (Builtin.SmallTypes.ownedTupleIsFree (.ref z) >>= _) _ _ _
  refine wpAny_bind ?_
  unfold Builtin.SmallTypes.ownedTupleIsFree
  refine wpAny_bind (wpAny_field hz rfl (x := .none) rfl (wpAny_pure ?_))
  simp only [if_true]
  refine wpAny_bind (wpAny_rule ?_)
  refine wpAny_bind (wpAny_field hz rfl (x := .ref TO) rfl ?_)
  refine wpAny_bind (wpAny_setField_rec hz (by simp) fun h₁ hz₁ hs₁ => ?_)
  replace hz₁ : IsZip h₁ z TI TO .ellipsis := hz₁
  refine wpAny_bind ?_
  simp only [List.zipIdx_cons, List.zipIdx_nil, List.forIn_cons, List.forIn_nil]
  refine wpAny_bind (wpAny_bind (wpAny_onRaise ?_))
  show wpAny _ _ (Builtin.SmallTypes.nextOf (.ref i1) >>= _) _ _ _
  refine wpAny_bind (nextOf_range (hs₁.extBut _ _ D.a3 h1) hleft fun h₂ h1₂ hs₂ => wpAny_pure ?_)
  have hTO₂ : IsPair h₂ TO a b := hs₂.extBut _ _ D.a8 (hs₁.extBut _ _ D.a2 hTO)
  refine wpAny_bind (wpAny_seqItems hTO₂ rfl ?_)
  refine wpAny_bind (wpAny_updateSeq_pair hTO₂ fun h₃ hTO₃ hs₃ => ?_)
  replace hTO₃ : IsPair h₃ TO (.int r s.toks) b := hTO₃
  refine wpAny_bind (wpAny_letGo (wpAny_pure ?_))
  refine wpAny_bind (wpAny_bind (wpAny_onRaise ?_))
  show wpAny _ _ (Builtin.SmallTypes.nextOf (.ref i2) >>= _) _ _ _
  refine wpAny_bind (wpAny_nextOf_list_item (((h2.extBut hs₁.extBut D.a4).extBut hs₂.extBut D.b1.symm).extBut hs₃.extBut D.a9.symm)
    (((hl.extBut hs₁.extBut D.b2).extBut hs₂.extBut D.b4).extBut hs₃.extBut D.b3) hy fun h₄ h2₄ hs₄ => wpAny_pure ?_)
  have hTO₄ : IsPair h₄ TO (.int r s.toks) b := hs₄.extBut _ _ D.a9 hTO₃
  refine wpAny_bind (wpAny_seqItems hTO₄ rfl ?_)
  refine wpAny_bind (wpAny_updateSeq_pair hTO₄ fun h₅ hTO₅ hs₅ => ?_)
  replace hTO₅ : IsPair h₅ TO (.int r s.toks) y := hTO₅
  refine wpAny_bind (wpAny_letGo (wpAny_pure (wpAny_pure ?_)))
  refine wpAny_bind (wpAny_seqItems hTO₅ rfl ?_)
  refine wpAny_bind (wpAny_newTuple ?_)
  have hsz : h₅.objs.size = s.heap.objs.size := by rw [hs₅.1, hs₄.1, hs₃.1, hs₂.1, hs₁.1]
  have hz₅ : IsZip h₅ z TI TO .ellipsis := hs₅.extBut _ _ D.a2.symm (hs₄.extBut _ _ D.a4.symm (hs₃.extBut _ _ D.a2.symm (hs₂.extBut _ _ D.a3.symm hz₁)))
  have hk₅ : ∀ c o, c ≠ z → c ≠ TO → c ≠ i1 → c ≠ i2 → s.heap.get? c = some o → h₅.get? c = some o := fun c o c1 c2 c3 c4 e =>
    hs₅.extBut _ _ c2 (hs₄.extBut _ _ c4 (hs₃.extBut _ _ c2 (hs₂.extBut _ _ c3 (hs₁.extBut _ _ c1 e))))
  have h1₅ : IsRangeIter h₅ i1 (r + step) (left - 1) step := hs₅.extBut _ _ D.a8.symm (hs₄.extBut _ _ D.b1 (hs₃.extBut _ _ D.a8.symm h1₂))
  have h2₅ : h₅.IsListIter i2 l (k + 1) := h2₄.extBut hs₅.extBut D.a9.symm
  have hzlt : z < h₅.objs.size := Heap.lt_size hz₅
  show wpAny _ _ (Builtin.SmallTypes.ownedTupleHandOut (.ref z) (.ref h₅.objs.size) >>= _) _ _ _
  refine wpAny_bind ?_
  unfold Builtin.SmallTypes.ownedTupleHandOut
  have hz₆ : IsZip (h₅.push { cls := .type "tuple", data := .seq #[.int r s.toks, y] }) z TI TO .ellipsis := Heap.get?_push_of_some _ hz₅
  refine wpAny_bind (wpAny_setField_rec hz₆ (by simp) fun h₇ hz₇ hs₇ => ?_)
  replace hz₇ : IsZip h₇ z TI TO (rawInt h₅.objs.size) := hz₇
  refine wpAny_setField_rec hz₇ (by simp) fun h₈ hz₈ hs₈ => ?_
  replace hz₈ : IsZip h₈ z TI TO (rawInt h₅.objs.size) := hz₈
  have up : ∀ c o, c ≠ z → h₅.get? c = some o → h₈.get? c = some o := fun c o c1 e => hs₈.extBut _ _ c1 (hs₇.extBut _ _ c1 (Heap.get?_push_of_some _ e))
  have hT₈ : IsPair h₈ h₅.objs.size (.int r s.toks) y := hs₈.extBut _ _ (Nat.ne_of_gt hzlt) (hs₇.extBut _ _ (Nat.ne_of_gt hzlt) (Heap.get?_push_size _ rfl))
  have hz8 : h₈.objs.size = h₅.objs.size + 1 := by rw [hs₈.1, hs₇.1, Heap.size_push]
  rw [hsz] at hz₈ hT₈ hz8
  refine wpAny_pure ⟨_, rfl, wpAny_pure ?_⟩
  show Q (some (.ref h₅.objs.size)) _
  rw [hsz]
  exact hQ h₈ _ hz₈ (up _ _ D.a2 hTO₅) (up _ _ D.a3 h1₅) (h2₅.at fun o e => up _ o D.a4 e) hT₈ hz8 fun c o c1 c2 c3 c4 e => up c o c1 (hk₅ c o c1 c2 c3 c4 e)
theorem zr_end {z TI TO i1 i2 : Addr} {r left step : Int} {Q : Option Value → Shared → Prop} (hh : A.handled = none) (n1 : i1 ≠ z)
    (hz : IsZip s.heap z TI TO .none) (hTI : IsPair s.heap TI (.ref i1) (.ref i2))
    (h1 : IsRangeIter s.heap i1 r left step) (hleft : left ≤ 0)
    (hQ : ∀ h', (∀ c o, c ≠ z → c ≠ i1 → s.heap.get? c = some o → h'.get? c = some o) → Q none { s with heap := h' }) :
    wpAny (model prog w) A (pyNext (.ref z)) Q E s := by
  have hT : s.TypeIs (.ref z) "zip" := ⟨_, hz, rfl⟩
  unfold pyNext
  refine wpAny_bind (wpAny_attempt (wpAny_callSpecial?_slot (name := Str.ofString "__next__") hT F.slot_zip_next
    (wpAny_call_entry F.slot_zip_next hT F.entry_zip_next ?_ (F.args_zip_next_1 _))))
  show wpAny _ _ (field (.ref z) 2 >>= _) _ _ _
  refine wpAny_bind (wpAny_field hz rfl (x := .bool false) rfl ?_)
  show wpAny _ _ (field (.ref z) 3 >>= _) _ _ _
  refine wpAny_bind (wpAny_field hz rfl (x := .ref TI) rfl ?_)
  refine wpAny_bind (wpAny_seqItems hTI rfl ?_)
  show wpAny _ _ (Builtin.SmallTypes.ownedTupleIsFree (.ref z) >>= _) _ _ _
  refine wpAny_bind ?_
  unfold Builtin.SmallTypes.ownedTupleIsFree
  refine wpAny_bind (wpAny_field hz rfl (x := .none) rfl (wpAny_pure ?_))
  simp only [if_true]
  refine wpAny_bind (wpAny_rule ?_)
  refine wpAny_bind (wpAny_field hz rfl (x := .ref TO) rfl ?_)
  refine wpAny_bind (wpAny_setField_rec hz (by simp) fun h₁ hz₁ hs₁ => ?_)
  replace hz₁ : IsZip h₁ z TI TO .ellipsis := hz₁
  refine wpAny_bind ?_
  simp only [List.zipIdx_cons, List.zipIdx_nil, List.forIn_cons, List.forIn_nil]
  refine wpAny_bind (wpAny_bind (wpAny_onRaise ?_))
  show wpAny _ _ (Builtin.SmallTypes.nextOf (.ref i1) >>= _) _ _ _
  refine wpAny_bind (nextOf_range_end hh (hs₁.extBut _ _ n1 h1) hleft fun h₂ e hs₂ he => ?_)
  obtain ⟨oe, hoe, hce⟩ := he
  have hz₂ : IsZip h₂ z TI TO .ellipsis := hs₂ _ _ n1.symm hz₁
  have hez : e ≠ z := fun x => by subst x; rw [hz₂] at hoe; cases hoe; simp at hce
  refine wpAny_setField_rec hz₂ (by simp) fun h₃ _ hs₃ => ?_
  refine wpAny_bind (wpAny_isInstance (T := "StopIteration") (b := true) ⟨oe, hs₃.extBut _ _ hez hoe, hce⟩ isSubtype_stop ?_)
  exact wpAny_pure (hQ _ fun c o c1 c2 x => hs₃.extBut _ _ c1 (hs₂ _ _ c2 (hs₁.extBut _ _ c1 x)))

abbrev zH1 (h : Heap) (r left step : Int) : Heap := h.push (rgIt r left step)
abbrev zH2 (h : Heap) (r left step : Int) (i2 : Addr) : Heap := (zH1 h r left step).push { cls := .type "tuple", data := .seq #[.ref h.objs.size, .ref i2] }
abbrev zH3 (h : Heap) (r left step : Int) (i2 : Addr) : Heap := (zH2 h r left step i2).push { cls := .type "tuple", data := .seq #[.none, .none] }
abbrev zH4 (h : Heap) (r left step : Int) (i2 : Addr) : Heap := (zH3 h r left step i2).push { cls := .type "zip", data := .fields #[.none, .bool false, .bool false, .ref (zH1 h r left step).objs.size, .ref (zH2 h r left step i2).objs.size] }
theorem meets_zr (rg i2 l : Addr) (a b c : Int) (t u v : Tok) (k : Nat) (hsm : Builtin.Range.small a b c = true) :
    Meets (Builtin.«zip.__new__» ⟨[.type "zip", .ref rg, .ref i2], []⟩) (fun _ R s => IsRange s.heap rg a b c t u v ∧ s.heap.IsListIter i2 l k ∧
      R (.ok (.ret (.ref (zH3 s.heap a (Builtin.Range.rangeSize a b c) c i2).objs.size))) { s with heap := zH4 s.heap a (Builtin.Range.rangeSize a b c) c i2 }) :=
  .of_wp fun prog w A R s h => by
    obtain ⟨hp, g, d, tk, os⟩ := s; obtain ⟨hl1, hl2, h⟩ := h
    have hsub := sub_zip
    have hL1 : IsRange (Shared.heap ⟨hp, g, d, tk, os⟩) rg a b c t u v := hl1
    have hL2 : Heap.IsListIter (Shared.heap ⟨hp.push (rgIt a (Builtin.Range.rangeSize a b c) c), g, d, tk, os⟩) i2 l k := hl2.at fun o e => Heap.get?_push_of_some _ e
    wp_walk using wpAny_pyIter_range hL1 hsm, wpAny_pyIter_listiter hL2
    exact ⟨_, rfl, h⟩
theorem call_zip_rl {rg i2 l : Addr} {a b c : Int} {t u v : Tok} {k : Nat} {Q : Value → Shared → Prop} (hsm : Builtin.Range.small a b c = true) (hr : IsRange s.heap rg a b c t u v) (hi : s.heap.IsListIter i2 l k)
    (h : ∀ h', IsZip h' (s.heap.objs.size + 3) (s.heap.objs.size + 1) (s.heap.objs.size + 2) .none → IsPair h' (s.heap.objs.size + 1) (.ref s.heap.objs.size) (.ref i2) →
      IsPair h' (s.heap.objs.size + 2) .none .none → IsRangeIter h' s.heap.objs.size a (Builtin.Range.rangeSize a b c) c → h'.objs.size = s.heap.objs.size + 4 →
      (∀ c o, s.heap.get? c = some o → h'.get? c = some o) → Q (.ref (s.heap.objs.size + 3)) { s with heap := h' }) :
    wpAny (model prog w) A (call (.type "zip") [.ref rg, .ref i2]) Q E s := by
  refine callType_new F.called_zip (by decide) (F.typeCall_zip_2 _ _) (F.newCall_zip_2 _ _) (fun obj => F.args_object_init_3 obj _ _) F.entry_zip_new
    (meets_zr rg i2 l a b c t u v k hsm) ⟨hr, hi, ?_⟩
  generalize Builtin.Range.rangeSize a b c = n at *
  have z1 : (zH1 s.heap a n c).objs.size = s.heap.objs.size + 1 := Heap.size_push ..
  have z2 : (zH2 s.heap a n c i2).objs.size = s.heap.objs.size + 2 := by rw [Heap.size_push, z1]
  have z3 : (zH3 s.heap a n c i2).objs.size = s.heap.objs.size + 3 := by rw [Heap.size_push, z2]
  have z4 : (zH4 s.heap a n c i2).objs.size = s.heap.objs.size + 4 := by rw [Heap.size_push, z3]
  have g4 : (zH4 s.heap a n c i2).get? (zH3 s.heap a n c i2).objs.size = some _ := Heap.get?_push_size _ rfl
  have g3 : (zH4 s.heap a n c i2).get? (zH2 s.heap a n c i2).objs.size = some _ := Heap.get?_push_of_some _ (Heap.get?_push_size _ rfl)
  have g2 : (zH4 s.heap a n c i2).get? (zH1 s.heap a n c).objs.size = some _ := Heap.get?_push_of_some _ (Heap.get?_push_of_some _ (Heap.get?_push_size _ rfl))
  have g1 : (zH4 s.heap a n c i2).get? s.heap.objs.size = some _ := Heap.get?_push_of_some _ (Heap.get?_push_of_some _ (Heap.get?_push_of_some _ (Heap.get?_push_size _ rfl)))
  show _ ∧ _
  rw [z1, z2, z3] at g4
  rw [z1] at g2
  rw [z2] at g3
  rw [z3]
  exact ⟨⟨_, g4, rfl⟩, h _ g4 g2 g3 g1 z4 fun c o x =>
    Heap.get?_push_of_some _ (Heap.get?_push_of_some _ (Heap.get?_push_of_some _ (Heap.get?_push_of_some _ x)))⟩
end
end Mine
end
section
open PySem PySem.W PyProof.Rows PySem.Spec PySem.Calls PyProof.Rows.LCg
set_option maxRecDepth 100000
set_option maxHeartbeats 1000000
namespace Mine
def CellAt (h : Heap) (B : Nat) (c : C) : Prop := (∃ t u n, h.get? c.a = some (tup c.x c.i t u n)) ∧ B ≤ c.a
theorem cells_tups {h : Heap} {B : Nat} : ∀ {cs : List C}, (∀ c ∈ cs, CellAt h B c) → ∃ tups : List (Addr × Obj), (∀ p ∈ tups, h.get? p.1 = some p.2 ∧ B ≤ p.1) ∧ ∀ c ∈ cs, ∃ t u n, (c.a, tup c.x c.i t u n) ∈ tups
  | [], _ => ⟨[], fun _ h => absurd h List.not_mem_nil, fun _ h => absurd h List.not_mem_nil⟩
  | c :: cs, H => by
    obtain ⟨⟨t, u, n, e⟩, hB⟩ := H c (.head _)
    obtain ⟨tups, h1, h2⟩ := cells_tups (cs := cs) fun d hd => H d (.tail _ hd)
    refine ⟨(c.a, tup c.x c.i t u n) :: tups, fun p hp => ?_, fun d hd => ?_⟩
    · rcases List.mem_cons.mp hp with rfl | hp
      · exact ⟨e, hB⟩
      · exact h1 p hp
    · rcases List.mem_cons.mp hd with rfl | hd
      · exact ⟨t, u, n, .head _⟩
      · obtain ⟨t', u', n', hm⟩ := h2 d hd
        exact ⟨t', u', n', .tail _ hm⟩
section
variable {prog : Program} {w : World} {A : Around} {E : Value → Shared → Prop} {h₀ : Heap} {L : Addr} {m : Str → Option Value} {env : Env}
theorem pair_elt {ce : Env} {a b : Str} {p1 p2 pT : Pos} {k : Nat} {va vb : Value} {m' : Str → Option Value} {s : Shared} {Q : Value → Shared → Prop} (hk : ce.scope.kind = .function) (ha : ce.kindOf a = some .local) (hb : ce.kindOf b = some .local) (hn : s.heap.Ns ce.locals m') (ea : m' a = some va) (eb : m' b = some vb)
    (da : (a == ("__debug__" : Str)) = false) (db : (b == ("__debug__" : Str)) = false)
    (h : Q (.ref s.heap.objs.size) { s with heap := s.heap.push { cls := .type "tuple", data := .seq #[vb, va] } }) :
    wpAny (model prog w) A (eval (.Tuple [.Name b p1, .Name a p2] k pT) ce) Q E s := by
  refine Tuple_ ?_
  show wpAny _ _ (spliced [(false, eval (.Name b p1) ce), (false, eval (.Name a p2) ce)]) _ _ _
  refine spliced_cons (wpAny_Name (wpAny_loadName_local hk hb hn eb ?_) db)
  refine spliced_cons (wpAny_Name (wpAny_loadName_local hk ha hn ea ?_) da)
  refine spliced_nil ?_
  exact wpAny_newTuple h

theorem zc_block {a b : Str} {pa pb tp p1 p2 pT pos : Pos} {kk kT : Nat} {iter : Expr} {scope : Scope} {z TI TO i1 i2 l : Addr} {st : Int} {vs : List Value} {ns : List Int} {n : Nat} {oI : Obj} {rest : List (Addr × Obj)} {x₀ y₀ : Value} {s₂ : Shared} {RR : Value → Env → Result → Shared → Prop}
    (hh : A.handled = none) (D0 : ZA z TI TO i1 i2 l) (hz : IsZip s₂.heap z TI TO .none) (hTI : IsPair s₂.heap TI (.ref i1) (.ref i2)) (hTO : IsPair s₂.heap TO x₀ y₀) (h1 : IsRangeIter s₂.heap i1 0 6 st)
    (F : Fr h₀ L s₂.heap m) (N : News h₀ L s₂.heap ((i2, oI) :: rest)) (hI : LI oI l 0) (hl : (l, listOf vs.toArray n) ∈ rest) (hi : IntsAre vs ns) (h13 : ns.length = 13)
    (z0 : h₀.get? z = none) (TO0 : h₀.get? TO = none) (i10 : h₀.get? i1 = none) (zL : z ≠ L) (TOL : TO ≠ L) (i1L : i1 ≠ L) (hoff : ∀ p ∈ rest, p.1 ≠ z ∧ p.1 ≠ TO ∧ p.1 ≠ i1 ∧ p.1 ≠ i2)
    (hcell : ∀ y ∈ scope.names, y.2 ≠ .cell) (hkind : scope.kind = .function) (hxa : scope.names.lookup a = some .local) (hxb : scope.names.lookup b = some .local) (hab : ¬ a = b)
    (da : (a == ("__debug__" : Str)) = false) (db : (b == ("__debug__" : Str)) = false)
    (hRR : ∀ D (ce : Env) cs h' tk m' oI' tups, cs.map (fun c => (c.x, c.i)) = (List.range 6).map (fun j => (ns.getD j 0, st * (j : Int))) → Fr h₀ L h' m → News h₀ L h' ((D, listOf (vals cs).toArray 6) :: (i2, oI') :: (tups ++ rest)) → LI oI' l 6 →
      (∀ p ∈ (i2, oI') :: (tups ++ rest), p.1 ≠ D) → (∀ p ∈ tups ++ rest, p.1 ≠ i2) → (∀ c ∈ cs, ∃ t u n, (c.a, tup c.x c.i t u n) ∈ tups) → h'.Ns ce.locals m' → ce.locals ≠ L → h₀.get? ce.locals = none → (∀ p ∈ (D, listOf (vals cs).toArray 6) :: (i2, oI') :: (tups ++ rest), p.1 ≠ ce.locals) →
      RR (.ref D) ce (.ok .next) { s₂ with heap := h', toks := tk }) :
    wpAny (model prog w) A (newList []) (fun acc s₃ => wpAny (model prog w) A (newFunctionEnv scope env.globals [] [] env.qual none .none (some env)) (fun cenv s₄ =>
      codeAny (model prog w) A (.compStart (.ListComp (.Tuple [.Name b p1, .Name a p2] kT pT) [⟨.Tuple [.Name a pa, .Name b pb] kk tp, iter, [], 0⟩] scope pos) 0 (.ref z) acc { cenv with scope := scope })
        (RR acc cenv) s₄) E s₃) E s₂ := by
  refine wpAny_newObj_type (wpAny_newFunctionEnv hcell (by intro y hy; simp at hy) (fun h₁ hns₁ hsb₁ => ?_) hkind)
  dsimp only at hns₁ hsb₁ ⊢
  generalize hH2 : s₂.heap.push { cls := .type "list", dict := none, data := .seq ([] : List Value).toArray } = H2 at hns₁ hsb₁ ⊢
  have hC : H2.objs.size = s₂.heap.objs.size + 1 := by rw [← hH2, Heap.size_push]
  have hDC : s₂.heap.objs.size ≠ H2.objs.size := by rw [hC]; exact Nat.ne_of_lt (Nat.lt_succ_self _)
  have below : ∀ b, b < s₂.heap.objs.size → b ≠ H2.objs.size ∧ b ≠ s₂.heap.objs.size := fun b hb => ⟨by rw [hC]; exact Nat.ne_of_lt (Nat.lt_succ_of_lt hb), Nat.ne_of_lt hb⟩
  have old : ∀ b o, s₂.heap.get? b = some o → h₁.get? b = some o := fun b o e => hsb₁.extBut b o (below b (Heap.lt_size e)).1 (Heap.get?_push_of_some _ (hH2 ▸ Heap.get?_push_of_some _ e))
  have hacc : h₁.get? s₂.heap.objs.size = some (listOf (vals []).toArray 0) := hsb₁.extBut _ _ hDC (Heap.get?_push_of_some _ (hH2 ▸ Heap.get?_push_size _ rfl))
  have fresh₀ : ∀ a, s₂.heap.objs.size ≤ a → h₀.get? a = none := fun a ha => by
    cases e : h₀.get? a with
    | none => rfl
    | some o' => exact absurd (Heap.lt_size (F.keep a o' e)) (Nat.not_lt.mpr ha)
  have hLlt : L < s₂.heap.objs.size := F.ns.lt
  have nB : ∀ {c d : Nat}, s₂.heap.objs.size + 2 ≤ c → d < s₂.heap.objs.size + 2 → c ≠ d := fun hc hd => Nat.ne_of_gt (Nat.lt_of_lt_of_le hd hc)
  have hzlt : z < s₂.heap.objs.size := Heap.lt_size hz
  have hTIlt : TI < s₂.heap.objs.size := Heap.lt_size hTI
  have hTOlt : TO < s₂.heap.objs.size := Heap.lt_size hTO
  have hi1lt : i1 < s₂.heap.objs.size := Heap.lt_size h1
  have hi2 := N _ (.head _)
  have hi2lt : i2 < s₂.heap.objs.size := Heap.lt_size hi2.1
  have hll := N _ (.tail _ hl)
  have hllt : l < s₂.heap.objs.size := Heap.lt_size hll.1
  have hlen : vs.length = 13 := by rw [hi.length, h13]
  have loop : ∀ (ce ce' : Env) (s₃ : Shared), ce'.locals = H2.objs.size → ce.locals = H2.objs.size → ce.scope = scope → s₃ = { s₂ with heap := h₁, toks := s₂.toks + ([] : List (Str × Value)).length } →
      codeAny (model prog w) A (.compLoop (.ListComp (.Tuple [.Name b p1, .Name a p2] kT pT) [⟨.Tuple [.Name a pa, .Name b pb] kk tp, iter, [], 0⟩] scope pos) 0 (.ref z) (.ref s₂.heap.objs.size) ce)
        (RR (.ref s₂.heap.objs.size) ce') s₃ := by
    rintro ce ce' s₃ hce' hce hcs rfl
    have kna : ce.kindOf a = some .local := by unfold Env.kindOf; rw [hcs]; exact hxa
    have knb : ce.kindOf b = some .local := by unfold Env.kindOf; rw [hcs]; exact hxb
    have hkf : ce.scope.kind = .function := by rw [hcs]; exact hkind
    refine kcp_loop
      (fun k s' => ∀ R : Nat → Shared → Prop, (∀ h' tk i cs m' u v, i ≤ 6 → cs.map (fun c => (c.x, c.i)) = (List.range i).map (fun j => (ns.getD j 0, st * (j : Int))) →
        IsZip h' z TI TO .none → IsPair h' TI (.ref i1) (.ref i2) → IsPair h' TO u v → IsRangeIter h' i1 (st * (i : Int)) (6 - (i : Int)) st → h'.IsListIter i2 l i → h'.Ns H2.objs.size m' →
        h'.get? s₂.heap.objs.size = some (listOf (vals cs).toArray cs.length) → (∀ c ∈ cs, CellAt h' (s₂.heap.objs.size + 2) c) →
        (∀ b o, b ≠ z → b ≠ TO → b ≠ i1 → b ≠ i2 → s₂.heap.get? b = some o → h'.get? b = some o) → R (7 - i) { s₂ with heap := h', toks := tk }) → R k s') ?_ 7
      (fun R kR => kR h₁ _ 0 [] _ _ _ (by decide) rfl (old _ _ hz) (old _ _ hTI) (old _ _ hTO) (by simpa using old _ _ h1) ⟨_, old _ _ hi2.1, hI⟩ hns₁ hacc (fun _ h => absurd h List.not_mem_nil) fun b o _ _ _ _ e => old b o e)
    intro k s' hInv
    apply hInv
    clear hInv k s'
    intro h' tk i cs m' u v hi6 hcsm hz' hTI' hTO' h1' h2' hn' hD' hcs' hk'
    have hcl : cs.length = i := by have := congrArg List.length hcsm; simpa using this
    have hl' : h'.IsList l vs.toArray := PySem.IsL.isList (n := n) (hk' _ _ D0.b2 D0.b3 D0.b4 D0.b5 hll.1)
    by_cases hlt : i < 6
    · obtain ⟨ty, hy⟩ := hi.get i (ns.getD i 0) (by rw [List.getD_eq_getElem?_getD, List.getElem?_eq_getElem (by omega)]; rfl)
      refine zr_item D0 hz' hTI' hTO' h1' (by omega) h2' hl' (by rw [List.getElem?_toArray]; exact hy) fun h₂ tk₂ hz₂ hTO₂ h1₂ h2₂ hT₂ hs₂ hk₂ => ?_
      refine wpAny_letOwnedTupleGo_zip hz₂ fun h₃ hz₃ hs₃ => ?_
      have nC : ∀ c, c < s₂.heap.objs.size → H2.objs.size ≠ c := fun c hc => Ne.symm (below c hc).1
      have nD : ∀ c, c < s₂.heap.objs.size → s₂.heap.objs.size ≠ c := fun c hc => Ne.symm (below c hc).2
      have up3 : ∀ c o, c ≠ z → c ≠ TO → c ≠ i1 → c ≠ i2 → h'.get? c = some o → h₃.get? c = some o := fun c o c1 c2 c3 c4 e => hs₃.extBut _ _ c1 (hk₂ c o c1 c2 c3 c4 e)
      have hn₃ : h₃.Ns H2.objs.size m' := hn'.at' fun o e => up3 _ o (nC _ hzlt) (nC _ hTOlt) (nC _ hi1lt) (nC _ hi2lt) e
      have hTsz : h'.objs.size ≠ z := Nat.ne_of_gt (Heap.lt_size hz')
      have hT₃ : IsPair h₃ h'.objs.size (.int (st * (i : Int)) tk) (.int (ns.getD i 0) ty) := hs₃.extBut _ _ hTsz hT₂
      refine kcp_assign (env := ce) hh ⟨_, hT₃, rfl, _, rfl⟩ kna knb (by rw [hcs, hkind]; rfl) (hce ▸ hn₃) fun h₄ tk₄ hn₄ hs₄ => ?_
      rw [hce] at hs₄
      have hn₄' := hn₄
      rw [hce] at hn₄'
      have hlt₄ : H2.objs.size < h₄.objs.size := hn₄'.lt
      refine pair_elt hkf kna knb hn₄ (va := .int (st * (i : Int)) tk) (vb := .int (ns.getD i 0) ty) (by show (if a = b then _ else if a = a then _ else _) = _; rw [if_neg hab, if_pos rfl]) (by show (if b = b then _ else _) = _; rw [if_pos rfl]) da db ?_
      have hD₅ : (h₄.push { cls := .type "tuple", data := .seq #[.int (ns.getD i 0) ty, .int (st * (i : Int)) tk] }).get? s₂.heap.objs.size = some (listOf (vals cs).toArray cs.length) :=
        Heap.get?_push_of_some _ (hs₄ _ _ hDC (up3 _ _ (nD _ hzlt) (nD _ hTOlt) (nD _ hi1lt) (nD _ hi2lt) hD'))
      refine append_at (hsz := by rw [List.size_toArray, vals_len, hcl]; show i ≤ 2 ^ 24; omega) hD₅ fun h₆ hs₆ hD₆ => ?_
      have up6 : ∀ c o, c ≠ H2.objs.size → c ≠ s₂.heap.objs.size → h₃.get? c = some o → h₆.get? c = some o := fun c o c1 c2 e => hs₆.extBut _ _ c2 (Heap.get?_push_of_some _ (hs₄ _ _ c1 e))
      have up36 : ∀ c o, c ≠ z → c ≠ TO → c ≠ i1 → c ≠ i2 → c ≠ H2.objs.size → c ≠ s₂.heap.objs.size → h'.get? c = some o → h₆.get? c = some o := fun c o c1 c2 c3 c4 c5 c6 e => up6 c o c5 c6 (up3 c o c1 c2 c3 c4 e)
      have lo : ∀ c o, c < s₂.heap.objs.size → h₃.get? c = some o → h₆.get? c = some o := fun c o hc e => up6 c o (below c hc).1 (below c hc).2 e
      have hT₆ : h₆.get? h₄.objs.size = some (tup (ns.getD i 0) (st * (i : Int)) ty tk 0) := hs₆.extBut _ _ (Nat.ne_of_gt (by rw [hC] at hlt₄; exact Nat.lt_of_succ_lt hlt₄)) (Heap.get?_push_size _ rfl)
      refine ⟨7 - (i + 1), by omega, fun R kR => kR h₆ tk₄ (i + 1) (cs ++ [⟨h₄.objs.size, ns.getD i 0, st * (i : Int)⟩]) _ _ _ hlt ?_ (lo _ _ hzlt hz₃) (lo _ _ hTIlt (hs₃.extBut _ _ D0.a1 (hk₂ _ _ D0.a1 D0.a5 D0.a6 D0.a7 hTI'))) (lo _ _ hTOlt (hs₃.extBut _ _ D0.a2 hTO₂)) ?_ ?_
        (hn₄'.at' fun o e => hs₆.extBut _ _ (Ne.symm hDC) (Heap.get?_push_of_some _ e)) ?_ ?_ ?_⟩
      · rw [List.map_append, hcsm, List.range_succ, List.map_append]; rfl
      · have q := lo _ _ hi1lt (hs₃.extBut _ _ D0.a3 h1₂)
        have e1 : st * (i : Int) + st = st * ((i + 1 : Nat) : Int) := by rw [Int.natCast_add, Int.mul_add]; simp
        have e2 : 6 - (i : Int) - 1 = 6 - ((i + 1 : Nat) : Int) := by omega
        rw [e1, e2] at q
        exact q
      · exact (h2₂.extBut hs₃.extBut D0.a4).at fun o e => lo _ o hi2lt e
      · rw [hD₆]
        simp [vals]
      · intro c hc
        rcases List.mem_append.mp hc with hc | hc
        · obtain ⟨⟨t, u, n', e⟩, hB⟩ := hcs' c hc
          exact ⟨⟨t, u, n', up36 _ _ (nB hB (Nat.lt_add_right 2 hzlt)) (nB hB (Nat.lt_add_right 2 hTOlt)) (nB hB (Nat.lt_add_right 2 hi1lt)) (nB hB (Nat.lt_add_right 2 hi2lt)) (nB hB (by rw [hC]; exact Nat.lt_succ_self _)) (nB hB (Nat.lt_add_of_pos_right (by decide))) e⟩, hB⟩
        · rw [List.mem_singleton.mp hc]
          exact ⟨⟨_, _, _, hT₆⟩, by rw [hC] at hlt₄; exact hlt₄⟩
      · intro c o c1 c2 c3 c4 e
        exact up36 c o c1 c2 c3 c4 (below c (Heap.lt_size e)).1 (below c (Heap.lt_size e)).2 (hk' c o c1 c2 c3 c4 e)
    · have hi' : i = 6 := by omega
      subst hi'
      refine zr_end hh D0.a3 hz' hTI' h1' (by omega) fun h₂ hk₂ => ?_
      have nC : ∀ c, c < s₂.heap.objs.size → H2.objs.size ≠ c := fun c hc => Ne.symm (below c hc).1
      have up : ∀ c o, c ≠ z → c ≠ i1 → h'.get? c = some o → h₂.get? c = some o := fun c o c1 c2 e => hk₂ c o c1 c2 e
      obtain ⟨tups, ht1, ht2⟩ := cells_tups hcs'
      obtain ⟨oI', hoI, hLI⟩ := h2'
      have nD : ∀ c, c < s₂.heap.objs.size → s₂.heap.objs.size ≠ c := fun c hc => Ne.symm (below c hc).2
      have hI2 : h₂.get? i2 = some oI' := up _ _ D0.a4 (Ne.symm D0.b1) hoI
      have hDn : h₂.get? s₂.heap.objs.size = some (listOf (vals cs).toArray 6) := by
        have q := up _ _ (nD _ hzlt) (nD _ hi1lt) hD'
        rw [hcl] at q
        exact q
      have tn : ∀ p ∈ tups, h₂.get? p.1 = some p.2 ∧ p.1 ≠ L ∧ h₀.get? p.1 = none ∧ p.1 ≠ s₂.heap.objs.size ∧ p.1 ≠ i2 ∧ p.1 ≠ H2.objs.size := fun p hp => by
        obtain ⟨e, hB⟩ := ht1 p hp
        exact ⟨up _ _ (nB hB (Nat.lt_add_right 2 hzlt)) (nB hB (Nat.lt_add_right 2 hi1lt)) e, nB hB (Nat.lt_add_right 2 hLlt), fresh₀ _ (Nat.le_of_add_right_le hB), nB hB (Nat.lt_add_of_pos_right (by decide)), nB hB (Nat.lt_add_right 2 hi2lt), nB hB (by rw [hC]; exact Nat.lt_succ_self _)⟩
      have rn : ∀ p ∈ rest, h₂.get? p.1 = some p.2 ∧ p.1 ≠ L ∧ h₀.get? p.1 = none ∧ p.1 ≠ s₂.heap.objs.size ∧ p.1 ≠ i2 ∧ p.1 ≠ H2.objs.size := fun p hp => by
        obtain ⟨e, e1, e2⟩ := N p (.tail _ hp)
        obtain ⟨o1, o2, o3, o4⟩ := hoff p hp
        have hlt := below _ (Heap.lt_size e)
        exact ⟨up _ _ o1 o3 (hk' _ _ o1 o2 o3 o4 e), e1, e2, hlt.2, o4, hlt.1⟩
      have trn : ∀ p ∈ tups ++ rest, h₂.get? p.1 = some p.2 ∧ p.1 ≠ L ∧ h₀.get? p.1 = none ∧ p.1 ≠ s₂.heap.objs.size ∧ p.1 ≠ i2 ∧ p.1 ≠ H2.objs.size := fun p hp => (List.mem_append.mp hp).elim (tn p) (rn p)
      refine hRR _ ce' cs h₂ _ m' oI' tups hcsm ?_ ?_ hLI ?_ (fun p hp => (trn p hp).2.2.2.2.1) ht2 (hce' ▸ hn'.at' fun o e => hk₂ _ o (nC _ hzlt) (nC _ hi1lt) e) (hce' ▸ Ne.symm (below _ hLlt).1) (hce' ▸ fresh₀ _ (by rw [hC]; exact Nat.le_succ _)) (hce' ▸ ?_)
      · refine ⟨F.ns.at' fun o e => up _ o (Ne.symm zL) (Ne.symm i1L) (hk' _ o (Ne.symm zL) (Ne.symm TOL) (Ne.symm i1L) (Ne.symm hi2.2.1) e), fun c o e => ?_, F.above⟩
        have e' := F.keep c o e
        have c1 : c ≠ z := fun q => by rw [q, z0] at e; cases e
        have c2 : c ≠ TO := fun q => by rw [q, TO0] at e; cases e
        have c3 : c ≠ i1 := fun q => by rw [q, i10] at e; cases e
        have c4 : c ≠ i2 := fun q => by rw [q, hi2.2.2] at e; cases e
        exact up c o c1 c3 (hk' c o c1 c2 c3 c4 e')
      · intro p hp
        rcases List.mem_cons.mp hp with rfl | hp
        · exact ⟨hDn, nD _ hLlt, fresh₀ _ (Nat.le_refl _)⟩
        · rcases List.mem_cons.mp hp with rfl | hp
          · exact ⟨hI2, hi2.2⟩
          · exact ⟨(trn p hp).1, (trn p hp).2.1, (trn p hp).2.2.1⟩
      · intro p hp
        rcases List.mem_cons.mp hp with rfl | hp
        · exact (below _ hi2lt).2
        · exact (trn p hp).2.2.2.1
      · intro p hp
        rcases List.mem_cons.mp hp with rfl | hp
        · exact hDC
        · rcases List.mem_cons.mp hp with rfl | hp
          · exact (below _ hi2lt).1
          · exact (trn p hp).2.2.2.2.2
  exact codeAny_compStart_list (loop _ _ _ rfl rfl rfl rfl) (wpAny_pyIter_zip (old _ _ hz) (loop _ _ _ rfl rfl rfl rfl))

theorem zc_assign {a b y : Str} {pa pb tp p1 p2 pT pos py spos : Pos} {kk kT : Nat} {iter : Expr} {scope : Scope} {st : Int} {vs : List Value} {ns : List Int} {n : Nat} {l i2 : Addr} {oI : Obj} {rest : List (Addr × Obj)} {s : Shared} {Q : Flow → Shared → Prop}
    (_F₀ : Fr h₀ L s.heap m) (_N₀ : News h₀ L s.heap ((i2, oI) :: rest)) (hsw : swapsWith (.ListComp (.Tuple [.Name b p1, .Name a p2] kT pT) [⟨.Tuple [.Name a pa, .Name b pb] kk tp, iter, [], 0⟩] scope pos) (some (.Name y py)) spos.line env = pure true)
    (hh : A.handled = none) (hfree : ∀ z ∈ scope.names, z.2 ≠ .free) (hcell : ∀ y ∈ scope.names, y.2 ≠ .cell) (hkind : scope.kind = .function) (hnames : ∀ z ∈ scope.names, z.2 = .local → scope.names.lookup z.1 = some .local)
    (hxa : scope.names.lookup a = some .local) (hxb : scope.names.lookup b = some .local) (hab : ¬ a = b)
    (da : (a == ("__debug__" : Str)) = false) (db : (b == ("__debug__" : Str)) = false)
    (hy : env.kindOf y = some .local) (hp : (env.scope.kind == .class || (env.scope.kind == .module && env.locals != env.globals)) = false) (hLe : env.locals = L)
    (h : ∀ K : Value → Shared → Prop, (∀ (s₁ : Shared) (z TI TO i1 : Addr) (x₀ y₀ : Value), ZA z TI TO i1 i2 l → IsZip s₁.heap z TI TO .none → IsPair s₁.heap TI (.ref i1) (.ref i2) → IsPair s₁.heap TO x₀ y₀ → IsRangeIter s₁.heap i1 0 6 st →
      Fr h₀ L s₁.heap m → News h₀ L s₁.heap ((i2, oI) :: rest) → LI oI l 0 → (l, listOf vs.toArray n) ∈ rest → IntsAre vs ns → ns.length = 13 →
      h₀.get? z = none → h₀.get? TO = none → h₀.get? i1 = none → z ≠ L → TO ≠ L → i1 ≠ L → (∀ p ∈ rest, p.1 ≠ z ∧ p.1 ≠ TO ∧ p.1 ≠ i1 ∧ p.1 ≠ i2) →
      (∀ D cs h' tk oI' tups, cs.map (fun c => (c.x, c.i)) = (List.range 6).map (fun j => (ns.getD j 0, st * (j : Int))) → Fr h₀ L h' (fun q => if q = y then some (.ref D) else m q) → News h₀ L h' ((D, listOf (vals cs).toArray 6) :: (i2, oI') :: (tups ++ rest)) → LI oI' l 6 →
        (∀ p ∈ (i2, oI') :: (tups ++ rest), p.1 ≠ D) → (∀ p ∈ tups ++ rest, p.1 ≠ i2) → (∀ c ∈ cs, ∃ t u n, (c.a, tup c.x c.i t u n) ∈ tups) → Q .next { s₁ with heap := h', toks := tk }) → K (.ref z) s₁) → wpAny (model prog w) A (eval iter env) K E s)
    (hs : ∀ x, foldedSetIterable iter env x = pure x := by intro _; rfl) :
    wpAny (model prog w) A (exec (.Assign [.Name y py] (.ListComp (.Tuple [.Name b p1, .Name a p2] kT pT) [⟨.Tuple [.Name a pa, .Name b pb] kk tp, iter, [], 0⟩] scope pos) spos) env) Q E s := by
  rw [exec_Assign_Name_used _ _ _ _ hsw]
  refine wpAny_bind (wpAny_standAt (wpAny_bind ?_))
  show wpAny _ A (do let _ ← comprehension (.ListComp (.Tuple [.Name b p1, .Name a p2] kT pT) [⟨.Tuple [.Name a pa, .Name b pb] kk tp, iter, [], 0⟩] scope pos) scope env _ (newList []) false (eval iter env) (some (assign (.Name y py) env))) _ _ s
  refine wpAny_bind (wpAny_mono (wpAny_comprehension_use (Q := fun _ s' => Q .next s') rfl hs hfree hkind hnames (h _ fun s₁ z TI TO i1 x₀ y₀ D0 hz hTI hTO h1 F N hI hl hi h13 z0 TO0 i10 zL TOL i1L hoff hQ => ?_))
    (fun _ s' hq => wpAny_pure (wpAny_pure hq)) fun _ _ e => e)
  refine wpAny_pyIter_zip hz ?_
  refine zc_block (RR := fun acc cenv r s' => match r with
      | .ok _ => wpAny (model prog w) A (assign (.Name y py) env acc) (fun _ s'' => ∃ m, s''.heap.Ns cenv.locals m ∧ ∀ h', Heap.SameBut cenv.locals s''.heap h' → Q .next { s'' with heap := h' }) E s'
      | .error x => ∃ m, s'.heap.Ns cenv.locals m ∧ ∀ h', Heap.SameBut cenv.locals s'.heap h' → wpAny (model prog w) A (passOn "comprehension.variables-let-go" x { cenv with scope := scope }) (fun _ s' => Q .next s') E { s' with heap := h' })
    hh D0 hz hTI hTO h1 F N hI hl hi h13 z0 TO0 i10 zL TOL i1L hoff hcell hkind hxa hxb hab da db ?_
  intro D ce cs h' tk m' oI' tups hcs F' N' hI' hD hi2 hH hn hcL hc0 hcn
  refine wpAny_assign_Name (wpAny_storeName_local hy (hLe ▸ F'.ns) (fun h₂ hn₂ hs₂ => ?_) hp)
  rw [hLe] at hn₂ hs₂
  refine ⟨m', hn.sameBut hs₂ hcL, fun h₃ hs₃ => ?_⟩
  exact hQ D cs h₃ _ oI' tups hcs ((F'.set hn₂ hs₂).change hs₃ hcL hc0) (fun p hp => ⟨hs₃.extBut _ _ (hcn p hp) (N'.set hs₂ p hp).1, (N' p hp).2⟩) hI' hD hi2 hH
end
end Mine
end
section
open PySem PySem.W PyProof.Rows PySem.Spec PySem.Calls PyProof.Rows.LCg
set_option maxRecDepth 100000
set_option maxHeartbeats 1000000
namespace Mine
section
variable {prog : Program} {w : World} {A : Around} {E : Value → Shared → Prop} {s : Shared} {h₀ : Heap} {L : Addr} {m : Str → Option Value} {rest news : List (Addr × Obj)} {env : Env}
theorem c_iter {l : Addr} {vs : List Value} {n : Nat} {Q : Value → Shared → Prop} (F : Fr h₀ L s.heap m) (N : News h₀ L s.heap news) (hm : (l, listOf vs.toArray n) ∈ news)
    (h : ∀ I h' oI, Fr h₀ L h' m → News h₀ L h' ((I, oI) :: news) → (∀ p ∈ news, p.1 < I) → LI oI l 0 → Q (.ref I) { s with heap := h' }) :
    wpAny (model prog w) A (call (.builtin "iter") [.ref l]) Q E s := by
  refine call_function_entry (by decide +kernel) (by decide +kernel) kdk_entry_iter (kdk_args_iter _) ?_
  unfold Builtin.«iter»
  refine wpAny_bind (m := someArgs "iter" 1 2 _) (wpAny_of_eq (a := [Value.ref l]) (by first | rfl | kernel_rfl!) ?_)
  show wpAny _ _ (pyIter (.ref l) >>= _) _ _ _
  refine wpAny_bind (wpAny_pyIter_list (PySem.IsL.isList (n := n) (N _ hm).1) ?_)
  exact wpAny_pure ⟨_, rfl, h _ _ _ (F.push _) (News.push F N _ rfl) (fun q hq => Heap.lt_size (N q hq).1) ⟨rfl, rfl⟩⟩
theorem c_len13 {l : Addr} {vs : List Value} {n : Nat} {Q : Value → Shared → Prop} (N : News h₀ L s.heap news) (hm : (l, listOf vs.toArray n) ∈ news) (hz : vs.length = 13) (h : Q (.int 13 (s.toks + 1)) { s with toks := s.toks + 1 + 1 }) :
    wpAny (model prog w) A (call (.builtin "len") [.ref l]) Q E s :=
  len_list (PySem.IsL.isList (n := n) (N _ hm).1) (by rw [List.size_toArray, hz]; decide) (by rw [List.size_toArray, hz]; exact h)

/-- a turn's end in a loop over a list's iterator -/
def KsfEnd {σ : Type} (h₀ : Heap) (L : Addr) (s : Shared) (I l : Addr) (Led : σ → List (Addr × Obj)) (ps : σ → List (Str × Value)) (stored : List Str) (m₀ : Str → Option Value) (P : Nat → σ → Prop) (k : Nat) (s₂ : Shared) : Prop :=
  ∃ (c' : σ) (h' : Heap) (tk : Nat) (m' : Str → Option Value) (oI : Obj), s₂ = { s with heap := h', toks := tk } ∧ Fr h₀ L h' m' ∧ News h₀ L h' ((I, oI) :: Led c') ∧ LI oI l k ∧ (∀ p ∈ ps c', m' p.1 = some p.2) ∧ (∀ z, (∀ p ∈ ps c', z ≠ p.1) → stored.contains z = false → m' z = m₀ z) ∧ P k c'
def KsfPost {σ : Type} (h₀ : Heap) (L : Addr) (s : Shared) (I l : Addr) (Led : σ → List (Addr × Obj)) (ps : σ → List (Str × Value)) (stored : List Str) (m₀ : Str → Option Value) (P : Nat → σ → Prop) (Q : Flow → Shared → Prop) (k : Nat) (f : Flow) (s₂ : Shared) : Prop :=
  match f with
  | .ret v => Q (.ret v) s₂
  | .brk => Q .next s₂
  | _ => KsfEnd h₀ L s I l Led ps stored m₀ P k s₂
theorem ksf_list {σ : Type} {target : Expr} {body : List Stmt} {I l : Addr} {vs : List Value} {n : Nat} {Q : Flow → Shared → Prop} {m₀ : Str → Option Value} (Led : σ → List (Addr × Obj)) (ps : σ → List (Str × Value)) (stored : List Str) (P : Nat → σ → Prop) (c₀ : σ) (k₀ : Nat) {oI₀ : Obj}
    (hh : A.handled = none) (F : Fr h₀ L s.heap m₀) (N : News h₀ L s.heap ((I, oI₀) :: Led c₀)) (hI : LI oI₀ l k₀) (hk : ∀ p ∈ ps c₀, m₀ p.1 = some p.2) (hp : P k₀ c₀) (hk0 : k₀ ≤ vs.length)
    (hoff : ∀ k c, P k c → (∀ p ∈ Led c, p.1 ≠ I) ∧ (l, listOf vs.toArray n) ∈ Led c)
    (turn : ∀ (k : Nat) (v : Value) (c : σ) (u : Str → Option Value) (h : Heap) (tk : Nat) (oI : Obj) (R : Flow → Shared → Prop), PTo (KsfPost h₀ L s I l Led ps stored m₀ P Q (k + 1)) R → vs[k]? = some v → P k c → Fr h₀ L h (kstB (fun z => if stored.contains z then u z else m₀ z) (ps c)) → News h₀ L h ((I, oI) :: Led c) → LI oI l (k + 1) →
      wpAny (model prog w) A (assign target env v) (fun _ s₂ => wpAny (model prog w) A (execs body env) (Post R) E s₂) E { s with heap := h, toks := tk })
    (done : ∀ (c : σ) (u : Str → Option Value) (h : Heap) (tk : Nat), P vs.length c → Fr h₀ L h (kstB (fun z => if stored.contains z then u z else m₀ z) (ps c)) → News h₀ L h (Led c) → Q .next { s with heap := h, toks := tk })
    (hE : PassesOwn (model prog w) A env E) (ht : ∀ v, letOwnedTupleGo target (.ref I) v = pure ()) :
    FRest (model prog w) A E env target (.ref I) body Q s := by
  have key : ∀ (d k : Nat), vs.length - k = d → k ≤ vs.length → ∀ s', KsfEnd h₀ L s I l Led ps stored m₀ P k s' → FRest (model prog w) A E env target (.ref I) body Q s' := by
    intro d
    induction d with
    | zero =>
      rintro k hd hk s' ⟨c, h, tk, m', oI, rfl, F', N', hI', h1, h2, hP⟩
      have : k = vs.length := by omega
      subst this
      obtain ⟨o1, o2⟩ := hoff _ c hP
      refine for_turn hE ht ?_
      exact next_list_end hh F' N' hI' o1 (PySem.IsL.isList (n := n) (N' _ (.tail _ o2)).1) (by simp) fun h' F'' N'' => done c m' h' _ hP (ksw_fr h1 h2 F'') N''
    | succ d ih =>
      rintro k hd hk s' ⟨c, h, tk, m', oI, rfl, F', N', hI', h1, h2, hP⟩
      obtain ⟨o1, o2⟩ := hoff _ c hP
      have hlt : k < vs.length := by omega
      refine for_turn hE ht ?_
      refine next_list F' N' hI' o1 (PySem.IsL.isList (n := n) (N' _ (.tail _ o2)).1) (x := vs[k]) (by simp [hlt]) fun h' oI' F'' N'' hI'' => ?_
      refine wpAny_mono (turn k vs[k] c m' h' _ oI' _ ⟨fun _ _ x => x⟩ (by simp [hlt]) hP (ksw_fr h1 h2 F'') N'' hI'') (fun _ s₂ q => ?_) fun _ _ x => x
      refine wpAny_mono q (fun f s₃ q => ?_) fun _ _ x => x
      cases f with
      | ret v => exact q
      | brk => exact q
      | next => exact ih (k + 1) (by omega) (by omega) s₃ q
      | cont => exact ih (k + 1) (by omega) (by omega) s₃ q
  exact key _ k₀ rfl hk0 s ⟨c₀, s.heap, s.toks, m₀, oI₀, rfl, F, N, hI, hk, fun _ _ _ => rfl, hp⟩
theorem ksf_end {σ : Type} {I l : Addr} {Led : σ → List (Addr × Obj)} {ps : σ → List (Str × Value)} {stored : List Str} {m₀ m' : Str → Option Value} {P : Nat → σ → Prop} {k : Nat} {h' : Heap} {tk : Nat} {oI : Obj} (c' : σ)
    (F : Fr h₀ L h' m') (N : News h₀ L h' ((I, oI) :: Led c')) (hI : LI oI l k) (hk : ∀ p ∈ ps c', m' p.1 = some p.2) (hr : ∀ z, (∀ p ∈ ps c', z ≠ p.1) → stored.contains z = false → m' z = m₀ z) (hp : P k c') :
    KsfEnd h₀ L s I l Led ps stored m₀ P k { s with heap := h', toks := tk } := ⟨c', h', tk, m', oI, rfl, F, N, hI, hk, hr, hp⟩
end
end Mine
end
section
open PySem PySem.W PyProof.Rows PySem.Spec PySem.Calls
set_option maxRecDepth 100000
set_option maxHeartbeats 1000000
namespace Mine
/-- the sort's tree of questions, answered by f; none where a place beyond the six is asked -/
def evo {α : Type} (f : Nat → Nat → Bool) : KasT α → Option α
  | .ret a => some a
  | .ask i j k => if i < 6 ∧ j < 6 then evo f (k (f i j)) else none
theorem evo_wp {α : Type} {cmp : Nat → Nat → (Bool → Shared → Prop) → Shared → Prop} {f : Nat → Nat → Bool} {Q : α → Shared → Prop} {s : Shared} (hc : ∀ i j (C : Bool → Shared → Prop), i < 6 → j < 6 → C (f i j) s → cmp i j C s) : ∀ (t : KasT α) {a : α}, evo f t = some a → Q a s → t.kasWp cmp Q s
  | .ret _, _, e, h => by cases e; exact h
  | .ask i j k, a, e, h => by
    unfold evo at e
    split at e
    · rename_i hij; exact hc i j _ hij.1 hij.2 (evo_wp hc (k (f i j)) e h)
    · cases e
theorem evo_congr {α : Type} {f g : Nat → Nat → Bool} (hfg : ∀ i j, i < 6 → j < 6 → f i j = g i j) : ∀ (t : KasT α), evo f t = evo g t
  | .ret _ => rfl
  | .ask i j k => by
    unfold evo
    split
    · rename_i hij; rw [hfg i j hij.1 hij.2]; exact evo_congr hfg _
    · rfl
def rk (r : List Nat) (i j : Nat) : Bool := decide (r.getD i 0 < r.getD j 0)
def okR (r : List Nat) : Bool := match evo (rk r) (kas_sort 6) with
  | some p => p.toList.isPerm [0, 1, 2, 3, 4, 5] && p.toList.map (r.getD · 0) == [0, 1, 2, 3, 4, 5]
  | none => false
def nxt (l : List Nat) (k : List Nat → Bool) : Bool := (List.range 6).all fun a => l.contains a || k (l ++ [a])
theorem all_ok : (nxt [] fun l => nxt l fun l => nxt l fun l => nxt l fun l => nxt l fun l => nxt l okR) = true := by decide +kernel
theorem nxt_at {l : List Nat} {k : List Nat → Bool} (h : nxt l k = true) {a : Nat} (ha : a < 6) (hn : a ∉ l) : k (l ++ [a]) = true := by
  have := List.all_eq_true.mp h a (List.mem_range.mpr ha)
  rcases Bool.or_eq_true_iff.mp this with q | q
  · exact absurd (List.contains_iff_mem.mp q) hn
  · exact q
theorem okR_of {a b c d e f : Nat} (ha : a < 6) (hb : b < 6) (hc : c < 6) (hd : d < 6) (he : e < 6) (hf : f < 6) (h : [a, b, c, d, e, f].Nodup) : okR [a, b, c, d, e, f] = true := by
  simp only [List.nodup_cons, List.mem_cons, List.not_mem_nil, or_false, not_or] at h
  obtain ⟨⟨h1, h2, h3, h4, h5⟩, ⟨h6, h7, h8, h9⟩, ⟨h10, h11, h12⟩, ⟨h13, h14⟩, h15, _⟩ := h
  have q := nxt_at all_ok ha List.not_mem_nil
  have q := nxt_at q hb (by simp [Ne.symm h1])
  have q := nxt_at q hc (by simp [Ne.symm h2, Ne.symm h6])
  have q := nxt_at q hd (by simp [Ne.symm h3, Ne.symm h7, Ne.symm h10])
  have q := nxt_at q he (by simp [Ne.symm h4, Ne.symm h8, Ne.symm h11, Ne.symm h13])
  have q := nxt_at q hf (by simp [Ne.symm h5, Ne.symm h9, Ne.symm h12, Ne.symm h14, Ne.symm h15])
  exact q

def rank (k : List Int) (x : Int) : Nat := k.countP (fun y => decide (y < x))
theorem rank_mono (k : List Int) {x y : Int} (h : x ≤ y) : rank k x ≤ rank k y := by
  unfold rank
  exact List.countP_mono_left fun z _ hz => by simp only [decide_eq_true_eq] at hz ⊢; omega
theorem rank_lt : ∀ {k : List Int} {x y : Int}, x ∈ k → x < y → rank k x < rank k y
  | z :: k, x, y, hx, h => by
    have hm := rank_mono k (Int.le_of_lt h)
    unfold rank at hm ⊢
    rw [List.countP_cons, List.countP_cons]
    rcases List.mem_cons.mp hx with rfl | hx
    · simp only [decide_eq_true_eq, Int.lt_irrefl, if_false, h, if_true]
      omega
    · have := rank_lt (k := k) hx h
      unfold rank at this
      by_cases h1 : z < x
      · simp only [decide_eq_true_eq, h1, if_true, show z < y by omega]; omega
      · simp only [decide_eq_true_eq, h1, if_false]
        split <;> omega
theorem rank_iff {k : List Int} {x y : Int} (hx : x ∈ k) : rank k x < rank k y ↔ x < y := by
  constructor
  · intro h
    rcases Int.lt_or_le x y with q | q
    · exact q
    · exact absurd (rank_mono k q) (Nat.not_le.mpr h)
  · exact rank_lt hx
theorem rank_len {k : List Int} {x : Int} (hx : x ∈ k) : rank k x < k.length := by
  have := rank_lt (y := x + 1) hx (by omega)
  exact Nat.lt_of_lt_of_le this List.countP_le_length
theorem sort6 {cs : List C} (h6 : cs.length = 6) (hn : (cs.map C.key).Nodup) : ∃ p : Array Nat, evo (fun i j => decide ((cat cs i).key < (cat cs j).key)) (kas_sort 6) = some p ∧ (∀ i ∈ p.toList, i < 6) ∧ (p.toList.map (cat cs)).Perm cs ∧ (p.toList.map (cat cs)).Pairwise (fun c d => c.key < d.key) := by
  obtain ⟨c0, c1, c2, c3, c4, c5, rfl⟩ : ∃ c0 c1 c2 c3 c4 c5, cs = [c0, c1, c2, c3, c4, c5] := by
    match cs, h6 with
    | [a, b, c, d, e, f], _ => exact ⟨a, b, c, d, e, f, rfl⟩
  have hk : ∀ c ∈ [c0, c1, c2, c3, c4, c5], c.key ∈ [c0, c1, c2, c3, c4, c5].map C.key := fun c hc => List.mem_map_of_mem hc
  have hr : okR ([c0, c1, c2, c3, c4, c5].map fun c => rank ([c0, c1, c2, c3, c4, c5].map C.key) c.key) = true := by
    refine okR_of (rank_len (hk _ (by simp))) (rank_len (hk _ (by simp))) (rank_len (hk _ (by simp))) (rank_len (hk _ (by simp))) (rank_len (hk _ (by simp))) (rank_len (hk _ (by simp))) ?_
    have q : ([c0, c1, c2, c3, c4, c5].map C.key).Pairwise (fun x y => rank ([c0, c1, c2, c3, c4, c5].map C.key) x ≠ rank ([c0, c1, c2, c3, c4, c5].map C.key) y) := by
      refine List.Pairwise.imp_of_mem (fun {x y} hx hy hxy e => ?_) hn
      rcases Int.lt_or_gt_of_ne hxy with q | q
      · exact absurd e (Nat.ne_of_lt (rank_lt hx q))
      · exact absurd e.symm (Nat.ne_of_lt (rank_lt hy q))
    have := List.pairwise_map.mp q
    exact List.pairwise_map.mpr this
  generalize hcs : [c0, c1, c2, c3, c4, c5] = cs at *
  have hrd : ∀ i, i < 6 → (cs.map fun c => rank (cs.map C.key) c.key).getD i 0 = rank (cs.map C.key) (cat cs i).key := fun i hi => by
    unfold cat
    rw [List.getD_eq_getElem?_getD, List.getElem?_map, List.getD_eq_getElem?_getD, List.getElem?_eq_getElem (by omega)]
    rfl
  have hin : ∀ i, i < 6 → (cat cs i).key ∈ cs.map C.key := fun i hi => hk _ (cat_mem (by omega))
  have hev : evo (fun i j => decide ((cat cs i).key < (cat cs j).key)) (kas_sort 6) = evo (rk (cs.map fun c => rank (cs.map C.key) c.key)) (kas_sort 6) := by
    refine evo_congr (fun i j hi hj => ?_) _
    unfold rk
    rw [hrd i hi, hrd j hj]
    exact decide_eq_decide.mpr (rank_iff (hin i hi)).symm
  rw [hev]
  unfold okR at hr
  split at hr
  · rename_i p e
    refine ⟨p, e, ?_, ?_, ?_⟩
    · have q := List.isPerm_iff.mp (Bool.and_eq_true_iff.mp hr).1
      intro i hi
      have := q.mem_iff.mp hi
      simp at this
      omega
    · have q := List.isPerm_iff.mp (Bool.and_eq_true_iff.mp hr).1
      have q2 := q.map (cat cs)
      have e2 : [0, 1, 2, 3, 4, 5].map (cat cs) = cs := by rw [← hcs]; rfl
      rw [e2] at q2
      exact q2
    · have q := List.isPerm_iff.mp (Bool.and_eq_true_iff.mp hr).1
      have q3 := eq_of_beq (Bool.and_eq_true_iff.mp hr).2
      have hlt : ∀ i ∈ p.toList, i < 6 := fun i hi => by
        have := q.mem_iff.mp hi
        simp at this
        omega
      have q4 : (p.toList.map fun i => (cs.map fun c => rank (cs.map C.key) c.key).getD i 0).Pairwise (· < ·) := by
        rw [q3]; decide
      rw [List.pairwise_map] at q4 ⊢
      refine List.Pairwise.imp_of_mem (fun {x y} hx hy hxy => ?_) q4
      rw [hrd x (hlt x hx), hrd y (hlt y hy)] at hxy
      exact (rank_iff (hin x (hlt x hx))).mp hxy
  · cases hr
end Mine
end
section
open PySem PySem.W PyProof.Rows PySem.Spec PySem.Calls
set_option maxRecDepth 100000
set_option maxHeartbeats 1000000
namespace Mine
section
variable {prog : Program} {w : World} {A : Around} {E : Value → Shared → Prop} {s : Shared} {h₀ : Heap} {L D : Addr} {m : Str → Option Value} {rest news : List (Addr × Obj)}
theorem k_ask {c d : C} {Q : Bool → Shared → Prop} (N : News h₀ L s.heap news) (hc : HeldC news c) (hd : HeldC news d) (h : Q (decide (c.key < d.key)) s) : wpAny (model prog w) A (keyLt' (tuples' true) (.ref c.a) (.ref d.a)) Q E s := by
  obtain ⟨⟨t, u, n, hm⟩, h1, h2⟩ := hc
  obtain ⟨⟨t', u', n', hm'⟩, h3, h4⟩ := hd
  refine kat_lt (N _ hm).1 rfl (N _ hm').1 rfl ?_
  show KatLex prog w A true _ Q [(.int c.x t, .int d.x t'), (.int c.i u, .int d.i u')] 0 s
  refine kat_cons (wpAny_eqBool_int ?_)
  by_cases e : c.x = d.x
  · rw [show (c.x == d.x) = true by simp [e]]
    refine kat_yes (kat_cons (wpAny_eqBool_int ?_))
    by_cases e2 : c.i = d.i
    · rw [show (c.i == d.i) = true by simp [e2]]
      refine kat_yes (kat_nil ?_)
      rw [show decide (c.key < d.key) = false by unfold C.key; simp [e, e2]] at h
      exact h
    · rw [show (c.i == d.i) = false by simp [e2]]
      refine kat_no (kat_one _ _ (PyProof.Rows.lt_int ?_))
      rw [show decide (c.key < d.key) = decide (c.i < d.i) from decide_eq_decide.mpr (by unfold C.key; omega)] at h
      exact h
  · rw [show (c.x == d.x) = false by simp [e]]
    refine kat_no (oneLt_int ?_)
    rw [show decide (c.key < d.key) = decide (c.x < d.x) from decide_eq_decide.mpr (by unfold C.key; omega)] at h
    exact h
theorem k_tups (N : News h₀ L s.heap news) : ∀ {cs : List C}, Held news cs → ∃ fs : List Value, KatTups s.heap (vals cs) fs ∧ fs.length = cs.length ∧ ∀ v ∈ fs, ∃ x t, v = .int x t
  | [], _ => ⟨[], .nil, rfl, fun _ h => absurd h List.not_mem_nil⟩
  | c :: cs, H => by
    obtain ⟨fs, h1, h2, h3⟩ := k_tups N (cs := cs) fun d hd => H d (.tail _ hd)
    obtain ⟨⟨t, u, n, hm⟩, _⟩ := H c (.head _)
    refine ⟨.int c.x t :: fs, .cons (N _ hm).1 rfl rfl rfl h1, by simp [h2], fun v hv => ?_⟩
    rcases List.mem_cons.mp hv with rfl | hv
    · exact ⟨_, _, rfl⟩
    · exact h3 v hv
theorem vals_getD {cs : List C} {i : Nat} (h : i < cs.length) : (vals cs).getD i Value.none = .ref (cat cs i).a := by
  unfold vals cat
  rw [List.getD_eq_getElem?_getD, List.getElem?_map, List.getD_eq_getElem?_getD, List.getElem?_eq_getElem h]
  rfl
theorem k_kind {cs : List C} {Q : SortKind → Shared → Prop} (N : News h₀ L s.heap news) (H : Held news cs) (h6 : cs.length = 6) (h : Q (tuples' true) s) : wpAny (model prog w) A (keyKind' (vals cs).toArray) Q E s := by
  obtain ⟨fs, h1, h2, h3⟩ := k_tups N H
  refine kat_kind (T := .type "int") h1 (by omega) (fun v hv => ?_) (by decide) h
  obtain ⟨x, t, rfl⟩ := h3 v hv
  exact .now
theorem k_sort {cs : List C} {G : Array Nat → Shared → Prop} (N : News h₀ L s.heap news) (H : Held news cs) (h6 : cs.length = 6) (hn : (cs.map C.key).Nodup)
    (h : ∀ p : Array Nat, (p.toList.map (cat cs)).Perm cs → (p.toList.map (cat cs)).Pairwise (fun c d => c.key < d.key) → (p.toList.map fun i => (vals cs).getD i Value.none) = vals (p.toList.map (cat cs)) → G p s) :
    (kas_sort (vals cs).length).kasWp (kas_ask prog w A (tuples' true) (vals cs)) G s := by
  rw [vals_len, h6]
  obtain ⟨p, e, h3, h1, h2⟩ := sort6 h6 hn
  refine evo_wp (f := fun i j => decide ((cat cs i).key < (cat cs j).key)) (fun i j C hi hj hC => ?_) _ e (h p h1 h2 ?_)
  · unfold kas_ask
    rw [vals_getD (by omega), vals_getD (by omega)]
    exact k_ask N (H.at (by omega)) (H.at (by omega)) hC
  · unfold vals
    rw [List.map_map]
    exact List.map_congr_left fun i hi => vals_getD (by rw [h6]; exact h3 i hi)
theorem c_sort {cs : List C} {n : Nat} {Q : Value → Shared → Prop} (F : Fr h₀ L s.heap m) (N : News h₀ L s.heap ((D, listOf (vals cs).toArray n) :: rest)) (hD : ∀ p ∈ rest, p.1 ≠ D) (H : Held rest cs) (h6 : cs.length = 6) (hn : (cs.map C.key).Nodup)
    (h : ∀ r n' h', r.Perm cs → r.Pairwise (fun c d => c.key < d.key) → Fr h₀ L h' m → News h₀ L h' ((D, listOf (vals r).toArray n') :: rest) → Q .none { s with heap := h' }) :
    wpAny (model prog w) A (call (.builtin "list.sort") [.ref D]) Q E s := by
  refine kat_lsort (g := fun o => (D, o) :: rest) F N (UpdF.head hD) (vs := vals cs) rfl (by rw [vals_len]; omega) (by rw [vals_len]; omega) fun e1 h' F' N' => ?_
  have H' : Held ((D, seqObj "list" #[] e1) :: rest) cs := fun c hc => (H c hc).more _
  refine k_kind N' H' h6 (k_sort N' H' h6 hn fun p h1 h2 h3 => ?_)
  rw [h3]
  exact KasFin.intro F' N' (UpdF.head hD) fun h'' c F'' N'' => h _ c h'' h1 h2 F'' N''
theorem c_sortR {cs : List C} {n : Nat} {Q : Value → Shared → Prop} (F : Fr h₀ L s.heap m) (N : News h₀ L s.heap ((D, listOf (vals cs).toArray n) :: rest)) (hD : ∀ p ∈ rest, p.1 ≠ D) (H : Held rest cs) (h6 : cs.length = 6) (hn : (cs.map C.key).Nodup)
    (h : ∀ r n' h', r.Perm cs → r.Pairwise (fun c d => d.key < c.key) → Fr h₀ L h' m → News h₀ L h' ((D, listOf (vals r).toArray n') :: rest) → Q .none { s with heap := h' }) :
    wpAny (model prog w) A (call (.builtin "list.sort") [.ref D] [(Str.ofString "reverse", .bool true)]) Q E s := by
  have nz := N _ (.head _)
  have ho : s.heap.get? D = some (seqObj "list" (vals cs).toArray n) := nz.1
  have Nr : News h₀ L s.heap rest := fun p hp => N p (.tail _ hp)
  refine wpAny_call_entry_kw slot_list_sort ⟨_, nz.1, rfl⟩ entry_list_sort ?_ (args_list_sort_rev _ _)
  have s1 := Heap.SameBut.update s.heap D (Obj.mapSeq fun _ => (#[] : Array Value))
  obtain ⟨e1, ho1⟩ : ∃ e1, (s.heap.update D (Obj.mapSeq fun _ => (#[] : Array Value))).get? D = some (seqObj "list" #[] e1) := ⟨_, get?_update_seq ho fun _ => #[]⟩
  have F3 : Fr h₀ L (((s.heap.update D (Obj.mapSeq fun _ => (#[] : Array Value))).push (seqObj "tuple" (vals cs).toArray 0)).push (seqObj "list" #[] 0)) m := ((kas_fr F s1 nz.2.1 nz.2.2).push _).push _
  have N2 : News h₀ L (((s.heap.update D (Obj.mapSeq fun _ => (#[] : Array Value))).push (seqObj "tuple" (vals cs).toArray 0)).push (seqObj "list" #[] 0)) rest :=
    (kas_news Nr s1 hD).grown fun b x e => Heap.get?_push_of_some _ (Heap.get?_push_of_some _ e)
  have N3 : News h₀ L (((s.heap.update D (Obj.mapSeq fun _ => (#[] : Array Value))).push (seqObj "tuple" (vals cs).toArray 0)).push (seqObj "list" #[] 0)) ((D, seqObj "list" #[] e1) :: rest) := fun p hp => by
    rcases List.mem_cons.mp hp with rfl | hp
    · exact ⟨Heap.get?_push_of_some _ (Heap.get?_push_of_some _ ho1), nz.2.1, nz.2.2⟩
    · exact N2 p hp
  have hlen : (vals cs).length = 6 := by rw [vals_len, h6]
  rw [list_sort_rev]
  refine wpAny_bind (listItems_at ho rfl ?_)
  refine wpAny_bind (listUpdate_at ho rfl ?_ (by rw [List.size_toArray, sizeLine_eq]; omega) (Nat.zero_le _))
  refine wpAny_bind (seqEpoch_at ho1 rfl ?_)
  refine wpAny_bind (wpAny_newTuple ?_ (by show (vals cs).length ≤ _; rw [sizeLine_eq]; omega))
  refine wpAny_bind (wpAny_newList ?_ (Nat.zero_le _))
  refine wpAny_holding ?_
  show wpAny (model prog w) A.in1 _ _ E { s with heap := ((s.heap.update D (Obj.mapSeq fun _ => (#[] : Array Value))).push (seqObj "tuple" (vals cs).toArray 0)).push (seqObj "list" #[] 0) }
  dsimp only
  have hn2 : ¬ (vals cs).toArray.size < 2 := by rw [List.size_toArray]; omega
  rw [if_neg hn2, if_neg hn2]
  simp only [if_true]
  refine wpAny_bind (wpAny_rule ?_)
  have H' : Held ((D, seqObj "list" #[] e1) :: rest) cs := fun c hc => (H c hc).more _
  refine wpAny_bind (k_kind N3 H' h6 ?_)
  have hrev : ((vals cs).toArray.zip (vals cs).toArray).reverse = (vals cs.reverse).toArray.zip (vals cs.reverse).toArray := by
    have := kat_pairs true (ks := vals cs) (vs := vals cs) rfl
    simp only [if_true] at this
    rw [this]
    unfold katRev vals
    simp only [if_true, List.map_reverse]
  rw [hrev]
  have hlr : (vals cs.reverse).length = 6 := by rw [vals_len, List.length_reverse, h6]
  have Hr : Held ((D, seqObj "list" #[] e1) :: rest) cs.reverse := fun c hc => H' c (List.mem_reverse.mp hc)
  have hnr : (cs.reverse.map C.key).Nodup := by rw [List.map_reverse]; exact List.pairwise_reverse.mpr (hn.imp fun h => Ne.symm h)
  refine wpAny_bind (wpAny_mono (kat_run (E := E) (Q := fun st' s' => ∃ p : Array Nat, p.size = (vals cs.reverse).length ∧ arrOf st' = p.map (kas_item ((vals cs.reverse).toArray.zip (vals cs.reverse).toArray)) ∧ failedOf st' = none ∧
      (∃ r : List C, r.Perm cs.reverse ∧ r.Pairwise (fun c d => c.key < d.key) ∧ (p.toList.map fun i => (vals cs.reverse).getD i Value.none) = vals r) ∧ s' = { s with heap := ((s.heap.update D (Obj.mapSeq fun _ => (#[] : Array Value))).push (seqObj "tuple" (vals cs).toArray 0)).push (seqObj "list" #[] 0) })
    rfl (by omega) (by omega) (G := fun p s' => (∃ r : List C, r.Perm cs.reverse ∧ r.Pairwise (fun c d => c.key < d.key) ∧ (p.toList.map fun i => (vals cs.reverse).getD i Value.none) = vals r) ∧ s' = { s with heap := ((s.heap.update D (Obj.mapSeq fun _ => (#[] : Array Value))).push (seqObj "tuple" (vals cs).toArray 0)).push (seqObj "list" #[] 0) })
    (fun p' st' s' a1 a2 a3 a4 => ⟨p', a1, a2, a3, a4⟩) (k_sort N3 Hr (by rw [List.length_reverse, h6]) hnr fun p h1 h2 h3 => ⟨⟨_, h1, h2, h3⟩, rfl⟩)) ?_ fun _ _ e => e)
  rintro ⟨⟨⟩, st'⟩ s' ⟨p, hp, har, hf, ⟨r, hr1, hr2, hr3⟩, rfl⟩
  dsimp only
  have hout := kat_snds rfl har
  rw [hr3] at hout
  rw [hout]
  have na := N3 _ (.head _)
  have hrev2 : (vals r).toArray.reverse = (vals r.reverse).toArray := by unfold vals; simp
  rw [hrev2]
  have hrl : (vals r.reverse).length = 6 := by rw [vals_len, List.length_reverse, hr1.length_eq, List.length_reverse, h6]
  have s2 := Heap.SameBut.update (((s.heap.update D (Obj.mapSeq fun _ => (#[] : Array Value))).push (seqObj "tuple" (vals cs).toArray 0)).push (seqObj "list" #[] 0)) D (Obj.mapSeq fun _ => (vals r.reverse).toArray)
  obtain ⟨c2, hc2⟩ : ∃ c2, ((((s.heap.update D (Obj.mapSeq fun _ => (#[] : Array Value))).push (seqObj "tuple" (vals cs).toArray 0)).push (seqObj "list" #[] 0)).update D (Obj.mapSeq fun _ => (vals r.reverse).toArray)).get? D = some (seqObj "list" (vals r.reverse).toArray c2) := ⟨_, get?_update_seq na.1 fun _ => (vals r.reverse).toArray⟩
  refine wpAny_bind (seqEpoch_at na.1 rfl ?_)
  refine wpAny_bind (listUpdate_at na.1 rfl ?_ (Nat.zero_le _) (by rw [List.size_toArray, hrl, sizeLine_eq]; omega))
  rw [hf]
  simp only [bne_self_eq_false, Bool.false_eq_true, if_false]
  refine wpAny_pure ⟨_, rfl, h r.reverse c2 _ ?_ ?_ (kas_fr F3 s2 na.2.1 na.2.2) (news_set (pre := []) N3 (fun _ h => nomatch h) hD s2 hc2)⟩
  · exact (List.reverse_perm r).trans (hr1.trans (List.reverse_perm cs))
  · exact List.pairwise_reverse.mpr hr2
end
end Mine
end
section
open PySem PySem.W PyProof.Rows PySem.Spec PySem.Calls PyProof.Rows.LCg
set_option maxRecDepth 100000
set_option maxHeartbeats 1000000
namespace Mine
section
variable {prog : Program} {w : World} {A : Around} {E : Value → Shared → Prop} {h₀ : Heap} {L : Addr} {m : Str → Option Value} {env : Env}
theorem ints_snoc {ws : List Value} {ns : List Int} (h : IntsAre ws ns) (x : Int) (t : Tok) : IntsAre (ws ++ [.int x t]) (ns ++ [x]) := by
  induction h with
  | nil => exact .cons _ _ .nil
  | cons i t' _ ih => exact .cons _ _ ih
theorem own_list {s : Shared} {I l : Addr} {k : Nat} {v : Value} {elts : List Expr} {x1 : Nat} {pos : Pos} {Q : Unit → Shared → Prop} (hi : s.heap.IsListIter I l k) (h : Q () s) :
    wpAny (model prog w) A (letOwnedTupleGo (.Tuple elts x1 pos) (.ref I) v) Q E s := by
  obtain ⟨o, ho, hc, hd⟩ := hi
  unfold letOwnedTupleGo
  cases v with
  | ref a =>
    refine wpAny_bind (wpAny_load ho ?_)
    rw [hc, hd]
    dsimp only
    rw [if_neg (by simp)]
    exact wpAny_pure h
  | _ => exact wpAny_pure h

theorem pc_comp {a b : Str} {pa pb tp p1 pos : Pos} {kk : Nat} {iter : Expr} {scope : Scope} {D : Addr} {cs : List C} {n : Nat} {rest : List (Addr × Obj)} {s : Shared} {Q : Value → Shared → Prop}
    (hh : A.handled = none) (hfree : ∀ z ∈ scope.names, z.2 ≠ .free) (hcell : ∀ y ∈ scope.names, y.2 ≠ .cell) (hkind : scope.kind = .function) (hnames : ∀ z ∈ scope.names, z.2 = .local → scope.names.lookup z.1 = some .local)
    (hxa : scope.names.lookup a = some .local) (hxb : scope.names.lookup b = some .local) (hab : ¬ a = b)
    (da : (a == ("__debug__" : Str)) = false)
    (h : wpAny (model prog w) A (eval iter env) (fun xv s₁ => xv = .ref D ∧ Fr h₀ L s₁.heap m ∧ News h₀ L s₁.heap ((D, listOf (vals cs).toArray n) :: rest) ∧ Held rest cs ∧ cs.length < 1000 ∧
      (∀ R ws h' tk, IntsAre ws (cs.map C.x) → Fr h₀ L h' m → News h₀ L h' ((R, listOf ws.toArray ws.length) :: (D, listOf (vals cs).toArray n) :: rest) → (∀ p ∈ (D, listOf (vals cs).toArray n) :: rest, p.1 < R) → Q (.ref R) { s₁ with heap := h', toks := tk })) E s)
    (hs : ∀ x, foldedSetIterable iter env x = pure x := by intro _; rfl) :
    wpAny (model prog w) A (eval (.ListComp (.Name a p1) [⟨.Tuple [.Name a pa, .Name b pb] kk tp, iter, [], 0⟩] scope pos) env) Q E s := by
  refine wpAny_ListComp hfree hkind hnames (wpAny_mono h (fun xv s₂ h₁ => ?_) fun _ _ e => e) hs
  obtain ⟨rfl, F, N, H, hcl, hQ⟩ := h₁
  have hD := N _ (.head _)
  have hLD : s₂.heap.IsList D (vals cs).toArray := PySem.IsL.isList (n := n) hD.1
  refine wpAny_pyIter_list hLD ?_
  refine wpAny_newObj_type (wpAny_newFunctionEnv hcell (by intro y hy; simp at hy) (fun h₁ hns₁ hsb₁ => ?_) hkind)
  dsimp only at hns₁ hsb₁ ⊢
  generalize hH1 : s₂.heap.push { cls := .type "list_iterator", data := .fields #[.ref D, .int 0 0] } = H1 at hns₁ hsb₁ ⊢
  have hR : H1.objs.size = s₂.heap.objs.size + 1 := by rw [← hH1, Heap.size_push]
  generalize hH2 : H1.push { cls := .type "list", dict := none, data := .seq ([] : List Value).toArray } = H2 at hns₁ hsb₁ ⊢
  have hC : H2.objs.size = s₂.heap.objs.size + 2 := by rw [← hH2, Heap.size_push, hR]
  have hRI : H1.objs.size ≠ s₂.heap.objs.size := by rw [hR]; exact Nat.succ_ne_self _
  have hRC : H1.objs.size ≠ H2.objs.size := by rw [hR, hC]; exact Nat.ne_of_lt (Nat.lt_succ_self _)
  have hIC : s₂.heap.objs.size ≠ H2.objs.size := by rw [hC]; exact Nat.ne_of_lt (Nat.lt_succ_of_lt (Nat.lt_succ_self _))
  have below : ∀ b, b < s₂.heap.objs.size → b ≠ H2.objs.size ∧ b ≠ s₂.heap.objs.size ∧ b ≠ H1.objs.size := fun b hb =>
    ⟨by rw [hC]; exact Nat.ne_of_lt (Nat.lt_succ_of_lt (Nat.lt_succ_of_lt hb)), Nat.ne_of_lt hb, by rw [hR]; exact Nat.ne_of_lt (Nat.lt_succ_of_lt hb)⟩
  have old : ∀ b o, s₂.heap.get? b = some o → h₁.get? b = some o := fun b o e =>
    hsb₁.extBut b o (below b (Heap.lt_size e)).1 (Heap.get?_push_of_some _ (hH2 ▸ Heap.get?_push_of_some _ (hH1 ▸ Heap.get?_push_of_some _ e)))
  have hit : h₁.IsListIter s₂.heap.objs.size D 0 :=
    ⟨_, hsb₁.extBut _ _ hIC (Heap.get?_push_of_some _ (hH2 ▸ Heap.get?_push_of_some _ (hH1 ▸ Heap.get?_push_size _ rfl))), rfl, rfl⟩
  have hacc : h₁.get? H1.objs.size = some (listOf ([] : List Value).toArray 0) := hsb₁.extBut _ _ hRC (Heap.get?_push_of_some _ (hH2 ▸ Heap.get?_push_size _ rfl))
  have fresh₀ : ∀ a, s₂.heap.objs.size ≤ a → h₀.get? a = none := fun a ha => by
    cases e : h₀.get? a with
    | none => rfl
    | some o' => exact absurd (Heap.lt_size (F.keep a o' e)) (Nat.not_lt.mpr ha)
  have hLlt : L < s₂.heap.objs.size := F.ns.lt
  have loop : ∀ (ce : Env) (RR : Result → Shared → Prop) (s₃ : Shared), ce.locals = H2.objs.size → ce.scope = scope → s₃ = { s₂ with heap := h₁, toks := s₂.toks + ([] : List (Str × Value)).length } →
      (∀ ws h' tk m', IntsAre ws (cs.map C.x) → h'.get? H1.objs.size = some (listOf ws.toArray ws.length) → h'.Ns H2.objs.size m' → (∀ b o, s₂.heap.get? b = some o → h'.get? b = some o) → RR (.ok .next) { s₂ with heap := h', toks := tk }) →
      codeAny (model prog w) A (.compLoop (.ListComp (.Name a p1) [⟨.Tuple [.Name a pa, .Name b pb] kk tp, iter, [], 0⟩] scope pos) 0 (.ref s₂.heap.objs.size) (.ref H1.objs.size) ce) RR s₃ := by
    rintro ce RR s₃ hce hcs rfl fin
    have kna : ce.kindOf a = some .local := by unfold Env.kindOf; rw [hcs]; exact hxa
    have knb : ce.kindOf b = some .local := by unfold Env.kindOf; rw [hcs]; exact hxb
    have hkf : ce.scope.kind = .function := by rw [hcs]; exact hkind
    refine kcp_loop
      (fun k s' => ∀ R : Nat → Shared → Prop, (∀ h' tk i ws m', i ≤ cs.length → IntsAre ws ((cs.take i).map C.x) →
        h'.IsListIter s₂.heap.objs.size D i → h'.Ns H2.objs.size m' → h'.get? H1.objs.size = some (listOf ws.toArray ws.length) →
        (∀ b o, s₂.heap.get? b = some o → h'.get? b = some o) → R (cs.length + 1 - i) { s₂ with heap := h', toks := tk }) → R k s') ?_ (cs.length + 1)
      (fun R kR => kR h₁ _ 0 [] _ (Nat.zero_le _) .nil hit hns₁ hacc old)
    intro k s' hInv
    apply hInv
    clear hInv k s'
    intro h' tk i ws m' hic hws hit' hn' hR' hk'
    have hlw : ws.length = i := by rw [hws.length, List.length_map, List.length_take]; omega
    have hD' : h'.IsList D (vals cs).toArray := PySem.IsL.isList (n := n) (hk' _ _ hD.1)
    by_cases hlt : i < cs.length
    · refine wpAny_pyNext_list_item hit' hD' (c_hx cs hlt) fun h₂ hit₂ hs₂ => ?_
      refine own_list hit₂ ?_
      obtain ⟨⟨t, u, n', hm⟩, _⟩ := H.at hlt
      have hTlt : (cat cs i).a < s₂.heap.objs.size := Heap.lt_size (N _ (.tail _ hm)).1
      have hT₂ : h₂.get? (cat cs i).a = some (tup (cat cs i).x (cat cs i).i t u n') := hs₂.extBut _ _ (below _ hTlt).2.1 (hk' _ _ (N _ (.tail _ hm)).1)
      refine kcp_assign (env := ce) hh ⟨_, hT₂, rfl, _, rfl⟩ kna knb (by rw [hcs, hkind]; rfl) (hce ▸ (hn'.at' fun o e => hs₂.extBut _ _ (Ne.symm hIC) e)) fun h₄ tk₄ hn₄ hs₄ => ?_
      rw [hce] at hs₄
      have hn₄' := hn₄
      rw [hce] at hn₄'
      refine wpAny_Name (wpAny_loadName_local hkf kna hn₄ (v := .int (cat cs i).x t) (by show (if a = b then _ else if a = a then _ else _) = _; rw [if_neg hab, if_pos rfl]) ?_) da
      have hR₄ : h₄.get? H1.objs.size = some (listOf ws.toArray ws.length) := hs₄ _ _ hRC (hs₂.extBut _ _ hRI hR')
      refine append_at (hsz := by rw [List.size_toArray, hlw]; show i ≤ 2 ^ 24; omega) hR₄ fun h₆ hs₆ hR₆ => ?_
      refine ⟨cs.length + 1 - (i + 1), by omega, fun R kR => kR h₆ tk₄ (i + 1) (ws ++ [.int (cat cs i).x t]) _ hlt ?_ ?_ (hn₄'.sameBut hs₆ (Ne.symm hRC)) ?_ (fun b o e => ?_)⟩
      · have e : (cs.take (i + 1)).map C.x = (cs.take i).map C.x ++ [(cat cs i).x] := by
          rw [List.take_succ, List.map_append, List.getElem?_eq_getElem hlt]
          unfold cat
          rw [List.getD_eq_getElem?_getD, List.getElem?_eq_getElem hlt]
          rfl
        rw [e]
        exact ints_snoc hws _ _
      · exact hit₂.at fun o e => hs₆.extBut _ _ (Ne.symm hRI) (hs₄ _ _ hIC e)
      · rw [hR₆]
        simp
      · have hb := below b (Heap.lt_size e)
        exact hs₆.extBut _ _ hb.2.2 (hs₄ _ _ hb.1 (hs₂.extBut _ _ hb.2.1 (hk' b o e)))
    · have hi' : i = cs.length := by omega
      subst hi'
      refine wpAny_pyNext_list_end hh hit' hD' (by simp [vals_len]) fun h₂ hx => ?_
      rw [List.take_length] at hws
      exact fin ws h₂ _ m' hws (hx _ _ hRI hR') (hn'.at' fun o e => hx _ _ (Ne.symm hIC) e) fun b o e => hx _ _ (below b (Heap.lt_size e)).2.1 (hk' b o e)
  have fin2 : ∀ (QE : Value → Shared → Prop) ws h' tk m', IntsAre ws (cs.map C.x) → h'.get? H1.objs.size = some (listOf ws.toArray ws.length) → h'.Ns H2.objs.size m' → (∀ b o, s₂.heap.get? b = some o → h'.get? b = some o) →
      ∃ m, h'.Ns H2.objs.size m ∧ ∀ h'', Heap.SameBut H2.objs.size h' h'' → Q (.ref H1.objs.size) { s₂ with heap := h'', toks := tk } := fun _ ws h' tk m' hws hR' hn' hk' => by
    refine ⟨m', hn', fun h'' hs'' => hQ H1.objs.size ws h'' tk hws ?_ ?_ ?_⟩
    · exact ⟨F.ns.at' fun o e => hs''.extBut _ _ (below _ hLlt).1 (hk' _ _ e), fun c o e => hs''.extBut _ _ (below c (Heap.lt_size (F.keep c o e))).1 (hk' _ _ (F.keep c o e)), F.above⟩
    · intro p hp
      rcases List.mem_cons.mp hp with rfl | hp
      · exact ⟨hs''.extBut _ _ hRC hR', Ne.symm (below _ hLlt).2.2, fresh₀ _ (by rw [hR]; exact Nat.le_succ _)⟩
      · have z := N p hp
        exact ⟨hs''.extBut _ _ (below _ (Heap.lt_size z.1)).1 (hk' _ _ z.1), z.2⟩
    · intro p hp
      rw [hR]
      exact Nat.lt_succ_of_lt (Heap.lt_size (N p hp).1)
  exact codeAny_compStart_list (loop _ _ _ rfl rfl rfl fun ws h' tk m' a1 a2 a3 a4 => fin2 (fun _ _ => True) ws h' tk m' a1 a2 a3 a4) (wpAny_pyIter_listiter hit (loop _ _ _ rfl rfl rfl fun ws h' tk m' a1 a2 a3 a4 => fin2 (fun _ _ => True) ws h' tk m' a1 a2 a3 a4))
end
end Mine
end
section
open PySem PySem.W PyProof.Rows PySem.Spec PySem.Calls PyProof.Rows.LCg
set_option maxRecDepth 100000
set_option maxHeartbeats 1000000
namespace Mine
section
variable {prog : Program} {w : World} {A : Around} {E : Value → Shared → Prop} {h₀ : Heap} {L : Addr} {m : Str → Option Value}
theorem zip_src {st b : Int} {vs : List Value} {n : Nat} {l i2 rg : Addr} {oI : Obj} {rest : List (Addr × Obj)} {t u v : Tok} {s : Shared}
    (F : Fr h₀ L s.heap m) (N : News h₀ L s.heap ((i2, oI) :: rest)) (hI : LI oI l 0) (hr : IsRange s.heap rg 0 b st t u v) (hsm : Builtin.Range.small 0 b st = true) (hb : Builtin.Range.rangeSize 0 b st = 6)
    (hl : (l, listOf vs.toArray n) ∈ rest) (hoff : ∀ p ∈ rest, p.1 ≠ i2)
    {K : Value → Shared → Prop} (k : ∀ (hz : Heap) (z TI TO i1 : Addr) (x₀ y₀ : Value), ZA z TI TO i1 i2 l → IsZip hz z TI TO .none → IsPair hz TI (.ref i1) (.ref i2) → IsPair hz TO x₀ y₀ → IsRangeIter hz i1 0 6 st →
      Fr h₀ L hz m → News h₀ L hz ((i2, oI) :: rest) → h₀.get? z = none → h₀.get? TO = none → h₀.get? i1 = none → z ≠ L → TO ≠ L → i1 ≠ L → (∀ p ∈ rest, p.1 ≠ z ∧ p.1 ≠ TO ∧ p.1 ≠ i1 ∧ p.1 ≠ i2) → K (.ref z) { s with heap := hz }) :
    wpAny (model prog w) A (call (.type "zip") [.ref rg, .ref i2]) K E s := by
  have z2 := N _ (.head _)
  have hi2lt : i2 < s.heap.objs.size := Heap.lt_size z2.1
  have hllt : l < s.heap.objs.size := Heap.lt_size (N _ (.tail _ hl)).1
  have hLlt : L < s.heap.objs.size := F.ns.lt
  have fresh₀ : ∀ a, s.heap.objs.size ≤ a → h₀.get? a = none := fun a ha => by
    cases e : h₀.get? a with
    | none => rfl
    | some o' => exact absurd (Heap.lt_size (F.keep a o' e)) (Nat.not_lt.mpr ha)
  have gt : ∀ {c d : Nat}, c < s.heap.objs.size → s.heap.objs.size ≤ d → d ≠ c := fun hc hd => Nat.ne_of_gt (Nat.lt_of_lt_of_le hc hd)
  refine call_zip_rl (l := l) (k := 0) hsm hr ⟨_, z2.1, hI⟩ fun h' a1 a2 a3 a4 a5 a6 => ?_
  rw [hb] at a4
  refine k _ _ _ _ _ _ _ ?_ a1 a2 a3 a4 (F.kept a6) (N.grown a6) (fresh₀ _ (Nat.le_add_right _ _)) (fresh₀ _ (Nat.le_add_right _ _)) (fresh₀ _ (Nat.le_refl _)) (gt hLlt (Nat.le_add_right _ _)) (gt hLlt (Nat.le_add_right _ _)) (gt hLlt (Nat.le_refl _)) fun p hp => ?_
  · constructor
    · exact Nat.ne_of_lt (by omega)
    · exact Nat.ne_of_lt (by omega)
    · exact Nat.ne_of_lt (by omega)
    · exact Nat.ne_of_lt (Nat.lt_add_right 3 hi2lt)
    · exact Nat.ne_of_lt (by omega)
    · exact Nat.ne_of_gt (by omega)
    · exact Nat.ne_of_gt (Nat.lt_add_right 1 hi2lt)
    · exact Nat.ne_of_gt (by omega)
    · exact Nat.ne_of_gt (Nat.lt_add_right 2 hi2lt)
    · exact Nat.ne_of_gt hi2lt
    · exact Nat.ne_of_lt (Nat.lt_add_right 3 hllt)
    · exact Nat.ne_of_lt (Nat.lt_add_right 2 hllt)
    · exact Nat.ne_of_lt hllt
    · exact hoff _ hl
  · have hlt : p.1 < s.heap.objs.size := Heap.lt_size (N p (.tail _ hp)).1
    exact ⟨Nat.ne_of_lt (Nat.lt_add_right 3 hlt), Nat.ne_of_lt (Nat.lt_add_right 2 hlt), Nat.ne_of_lt hlt, hoff p hp⟩
end

theorem c_truthy6 {prog : Program} {w : World} {A : Around} {E : Value → Shared → Prop} {s : Shared} {h₀ : Heap} {L D : Addr} {news : List (Addr × Obj)} {cs : List C} {n : Nat} {Q : Bool → Shared → Prop} (N : News h₀ L s.heap news) (hm : (D, listOf (vals cs).toArray n) ∈ news) (hz : cs.length = 6) (h : Q true { s with toks := s.toks + 1 + 1 }) :
    wpAny (model prog w) A (truthy (.ref D)) Q E s :=
  wpAny_truthy_list (PySem.IsL.isList (n := n) (N _ hm).1) (by rw [List.size_toArray, vals_len]; omega) (by rw [show (!(vals cs).toArray.isEmpty) = true by unfold Array.isEmpty; rw [List.size_toArray, vals_len, hz]; rfl]; exact h)
theorem c_fst {prog : Program} {w : World} {A : Around} {E : Value → Shared → Prop} {s : Shared} {value slice : Expr} {h₀ : Heap} {L : Addr} {news : List (Addr × Obj)} {c : C} {u : Tok} {Q : Value → Shared → Prop} (N : News h₀ L s.heap news) (hc : HeldC news c) (h : ∀ t, Q (.int c.x t) s)
    (hs : subscripted slice false (.ref c.a) (.int 0 u) = operate [.ref c.a, .int 0 u] (getItem (.ref c.a) (.int 0 u)) := by with_unfolding_all rfl) :
    wpAny (model prog w) A (subscriptTail value slice (.ref c.a) (.int 0 u)) Q E s := by
  obtain ⟨⟨t, u', n, hm⟩, _⟩ := hc
  exact item_tupleT (l := [.int c.x t, .int c.i u']) ⟨_, (N _ hm).1, rfl, _, rfl⟩ (by decide) (by decide) (j := 0) rfl rfl (h t) hs
theorem c_unpack {prog : Program} {w : World} {A : Around} {E : Value → Shared → Prop} {s : Shared} {env : Env} {a b : Str} {pa pb tp : Pos} {kk : Nat} {h₀ : Heap} {L : Addr} {m : Str → Option Value} {news : List (Addr × Obj)} {c : C} {Q : Unit → Shared → Prop} (hh : A.handled = none) (F : Fr h₀ L s.heap m) (N : News h₀ L s.heap news) (hc : HeldC news c) (hL : env.locals = L)
    (ha : env.kindOf a = some .local) (hb : env.kindOf b = some .local) (hp : (env.scope.kind == .class || (env.scope.kind == .module && env.locals != env.globals)) = false)
    (h : ∀ t u h' tk, Fr h₀ L h' (fun z => if z = b then some (.int c.i u) else if z = a then some (.int c.x t) else m z) → News h₀ L h' news → Q () { s with heap := h', toks := tk }) :
    wpAny (model prog w) A (assign (.Tuple [.Name a pa, .Name b pb] kk tp) env (.ref c.a)) Q E s := by
  obtain ⟨⟨t, u, n, hm⟩, _⟩ := hc
  refine kcp_assign hh ⟨_, (N _ hm).1, rfl, _, rfl⟩ ha hb hp (hL ▸ F.ns) fun h' tk hn hk => ?_
  rw [hL] at hn hk
  refine h t u h' tk ⟨hn, fun c o e => hk c o (Nat.ne_of_lt (Nat.lt_of_lt_of_le (Heap.lt_size e) F.above)) (F.keep c o e), F.above⟩ fun p hp => ⟨hk _ _ (N p hp).2.1 (N p hp).1, (N p hp).2⟩
theorem news_rot3 {h₀ h : Heap} {L : Addr} {a b d : Addr × Obj} {r : List (Addr × Obj)} (N : News h₀ L h (a :: b :: d :: r)) : News h₀ L h (d :: a :: b :: r) := fun p hp => N p (by
  simp only [List.mem_cons] at hp ⊢
  rcases hp with h | h | h | h
  · exact .inr (.inr (.inl h))
  · exact .inl h
  · exact .inr (.inl h)
  · exact .inr (.inr (.inr h)))
theorem news_back3 {h₀ h : Heap} {L : Addr} {a b d : Addr × Obj} {r : List (Addr × Obj)} (N : News h₀ L h (d :: a :: b :: r)) : News h₀ L h (b :: d :: a :: r) := fun p hp => N p (by
  simp only [List.mem_cons] at hp ⊢
  rcases hp with h | h | h | h
  · exact .inr (.inr (.inl h))
  · exact .inl h
  · exact .inr (.inl h)
  · exact .inr (.inr (.inr h)))
/-- what nlargest | nsmallest has after k items (bet: the new one is better than the top; st: the step of the order) -/
inductive Run (lt : C → C → Bool) (bet : Int → Int → Bool) (st : Int) (ns : List Int) : Nat → List C → Int → Prop where
  | start {cs r1 r2 r} : cs.map (fun c => (c.x, c.i)) = (List.range 6).map (fun j => (ns.getD j 0, st * (j : Int))) → Sift lt cs 2 r1 → Sift lt r1 1 r2 → Sift lt r2 0 r → Run lt bet st ns 6 r (st * 6)
  | skip {k cs o} : Run lt bet st ns k cs o → bet (ns.getD k 0) (cat cs 0).x = false → Run lt bet st ns (k + 1) cs o
  | take {k cs o a r} : Run lt bet st ns k cs o → bet (ns.getD k 0) (cat cs 0).x = true → Sift lt (cs.set 0 ⟨a, ns.getD k 0, o⟩) 0 r → Run lt bet st ns (k + 1) r (o + st)
theorem len_start {st : Int} {ns : List Int} {cs : List C} (h : cs.map (fun c => (c.x, c.i)) = (List.range 6).map (fun j => (ns.getD j 0, st * (j : Int)))) : cs.length = 6 := by
  have := congrArg List.length h
  simpa using this
theorem held_start {st : Int} {ns : List Int} {cs : List C} {news : List (Addr × Obj)} (hst : st = 1 ∨ st = -1) (h : cs.map (fun c => (c.x, c.i)) = (List.range 6).map (fun j => (ns.getD j 0, st * (j : Int)))) (hm : ∀ c ∈ cs, ∃ t u n, (c.a, tup c.x c.i t u n) ∈ news) : Held news cs := fun c hc => by
  refine ⟨hm c hc, ?_⟩
  have : (c.x, c.i) ∈ (List.range 6).map (fun j => (ns.getD j 0, st * (j : Int))) := h ▸ List.mem_map_of_mem hc
  obtain ⟨j, hj, e⟩ := List.mem_map.mp this
  have hj6 := List.mem_range.mp hj
  injection e with e1 e2
  rcases hst with rfl | rfl <;> omega
theorem Held.sub {news news' : List (Addr × Obj)} {cs : List C} (H : Held news cs) (hs : ∀ p ∈ news, p ∈ news') : Held news' cs := fun c hc => (H c hc).sub hs
theorem Run.len {lt : C → C → Bool} {bet : Int → Int → Bool} {st : Int} {ns : List Int} {k : Nat} {cs : List C} {o : Int} (h : Run lt bet st ns k cs o) : cs.length = 6 ∧ 6 ≤ k ∧ ∃ j : Nat, o = st * (j : Int) ∧ j ≤ k := by
  induction h with
  | start h1 h2 h3 h4 =>
    have := congrArg List.length h1
    simp only [List.length_map, List.length_range] at this
    exact ⟨by rw [h4.len, h3.len, h2.len, this], Nat.le_refl _, 6, rfl, Nat.le_refl _⟩
  | skip _ _ ih =>
    obtain ⟨h1, h2, j, h3, h4⟩ := ih
    exact ⟨h1, by omega, j, h3, by omega⟩
  | take _ _ hs ih =>
    obtain ⟨h1, h2, j, h3, h4⟩ := ih
    refine ⟨by rw [hs.len, List.length_set, h1], by omega, j + 1, ?_, by omega⟩
    rw [h3, Int.natCast_add, Int.mul_add]
    simp
end Mine
end
section
open PySem PySem.W PyProof.Rows PySem.Spec PySem.Calls
set_option maxRecDepth 100000
set_option maxHeartbeats 1000000
namespace Mine
theorem news_sub {h₀ h : Heap} {L : Addr} {a b : List (Addr × Obj)} (N : News h₀ L h a) (hs : ∀ p ∈ b, p ∈ a) : News h₀ L h b := fun p hp => N p (hs p hp)
/-- the state of nlargest's loop: the heap, the next order, the tuples made, two tokens -/
structure St where
  cs : List C
  o : Int
  tups : List (Addr × Obj)
  tt : Tok
  to : Tok
theorem ints_at {vs : List Value} {ns : List Int} (h : IntsAre vs ns) : ∀ {k : Nat} {v : Value}, vs[k]? = some v → ∃ t, v = .int (ns.getD k 0) t := by
  induction h with
  | nil => intro k v h; simp at h
  | cons i t _ ih =>
    intro k v h
    cases k with
    | zero => simp at h; exact ⟨t, by simp [h]⟩
    | succ k =>
      obtain ⟨t', e⟩ := ih (by simpa using h)
      exact ⟨t', by simpa using e⟩

theorem cat_eq {cs : List C} {k : Nat} (h : k < cs.length) : cat cs k = cs[k] := by
  unfold cat
  rw [List.getD_eq_getElem?_getD, List.getElem?_eq_getElem h]
  rfl
theorem set_split {α : Type} : ∀ {cs : List α} {p : Nat} (h : p < cs.length) (c : α), (cs.set p c).Perm (c :: cs.eraseIdx p)
  | [], _, h, _ => absurd h (by simp)
  | d :: cs, 0, _, c => by simp
  | d :: cs, p + 1, h, c => by
    simp only [List.set_cons_succ, List.eraseIdx_cons_succ]
    exact ((set_split (cs := cs) (p := p) (by simpa using h) c).cons d).trans (.swap ..)
theorem set_own {α : Type} {cs : List α} {p : Nat} (h : p < cs.length) : cs.set p cs[p] = cs := by simp
theorem perm_erase {α : Type} {cs : List α} {p : Nat} (h : p < cs.length) : cs.Perm (cs[p] :: cs.eraseIdx p) := by
  have := set_split h cs[p]
  rwa [set_own h] at this
/-- the hole moves from p to j -/
theorem hole {cs : List C} {p j : Nat} (hp : p < cs.length) (hj : j < cs.length) (hne : p ≠ j) (c : C) : ((cs.set p (cat cs j)).set j c).Perm (cs.set p c) := by
  have e1 : (cs.set p (cat cs j)).set j c = (cs.set j c).set p (cat cs j) := List.set_comm _ _ hne
  rw [e1]
  have h1 : ((cs.set j c).set p (cat cs j)).Perm (cat cs j :: (cs.set j c).eraseIdx p) := set_split (by rw [List.length_set]; exact hp) _
  have h2 : (cs.set p c).Perm (c :: cs.eraseIdx p) := set_split hp c
  refine h1.trans (.trans ?_ h2.symm)
  have key : ∀ (cs : List C) (p j : Nat), p < cs.length → (hj : j < cs.length) → p ≠ j → (cs[j] :: (cs.set j c).eraseIdx p).Perm (c :: cs.eraseIdx p) := by
    intro cs
    induction cs with
    | nil => intro p j h; exact absurd h (by simp)
    | cons d cs ih =>
      intro p j hp hj hne
      cases p with
      | zero =>
        cases j with
        | zero => exact absurd rfl hne
        | succ j =>
          simp only [List.set_cons_succ, List.eraseIdx_cons_zero, List.getElem_cons_succ]
          have hj' : j < cs.length := by simpa using hj
          have a := set_split hj' c
          have b := perm_erase hj'
          exact (a.cons _).trans ((List.Perm.swap ..).trans (b.symm.cons c))
      | succ p =>
        cases j with
        | zero =>
          simp only [List.set_cons_zero, List.eraseIdx_cons_succ, List.getElem_cons_zero]
          exact .swap ..
        | succ j =>
          simp only [List.set_cons_succ, List.eraseIdx_cons_succ, List.getElem_cons_succ]
          have := ih p j (by simpa using hp) (by simpa using hj) (by omega)
          exact (List.Perm.swap ..).trans ((this.cons d).trans (.swap ..))
  rw [cat_eq hj]
  exact key cs p j hp hj hne
theorem SD.perm {lt : C → C → Bool} {sp : Nat} {c : C} {cs : List C} {p : Nat} {r : List C} (h : SD lt sp c cs p r) (hp : p < cs.length) : r.Perm (cs.set p c) := by
  induction h with
  | stop _ => exact .refl _
  | brk _ _ => exact .refl _
  | @up cs p r h1 _ _ ih =>
    have hj : (p - 1) / 2 < cs.length := by omega
    exact (ih (by rw [List.length_set]; exact hj)).trans (hole hp hj (by omega) c)
theorem SU.perm {lt : C → C → Bool} {e : Nat} {cs : List C} {p : Nat} {r : List C} {q : Nat} (h : SU lt e cs p r q) (he : e = cs.length) (hp : p < cs.length) (c : C) : (r.set q c).Perm (cs.set p c) ∧ q < cs.length := by
  induction h with
  | stop _ => exact ⟨.refl _, hp⟩
  | @go cs p r q h1 _ ih =>
    have hj : pick lt e cs (2 * p + 1) < cs.length ∧ p < pick lt e cs (2 * p + 1) := by
      unfold pick
      split <;> omega
    have := ih (by rw [List.length_set]; exact he) (by rw [List.length_set]; exact hj.1)
    rw [List.length_set] at this
    exact ⟨this.1.trans (hole hp hj.1 (by omega) c), this.2⟩
theorem Sift.perm {lt : C → C → Bool} {xs : List C} {p : Nat} {r : List C} (h : Sift lt xs p r) (hp : p < xs.length) : r.Perm xs := by
  obtain ⟨ys, q, h1, h2⟩ := h
  obtain ⟨p1, hq⟩ := h1.perm rfl hp (cat xs p)
  have p2 := h2.perm (by rw [List.length_set, h1.len]; exact hq)
  rw [List.set_set] at p2
  refine p2.trans (p1.trans ?_)
  rw [cat_eq hp, set_own hp]

/-- the orders of what is in the heap: all apart, and of the kind st * j with j below the next -/
theorem Run.orders {lt : C → C → Bool} {bet : Int → Int → Bool} {st : Int} {ns : List Int} {k : Nat} {cs : List C} {o : Int} (hst : st = 1 ∨ st = -1) (h : Run lt bet st ns k cs o) :
    (cs.map C.i).Nodup ∧ (∀ c ∈ cs, ∃ j : Nat, c.i = st * (j : Int)) ∧ ∃ J : Nat, o = st * (J : Int) ∧ J ≤ k ∧ ∀ c ∈ cs, st * c.i < J := by
  induction h with
  | @start cs r1 r2 r h1 h2 h3 h4 =>
    have hl := len_start h1
    have P : r.Perm cs := (h4.perm (by rw [h3.len, h2.len]; omega)).trans ((h3.perm (by rw [h2.len]; omega)).trans (h2.perm (by omega)))
    have hi : cs.map C.i = (List.range 6).map (fun j : Nat => st * (j : Int)) := by
      have := congrArg (List.map Prod.snd) h1
      simpa [List.map_map, Function.comp_def] using this
    have hm : ∀ c ∈ cs, ∃ j : Nat, j < 6 ∧ c.i = st * (j : Int) := fun c hc => by
      have : c.i ∈ cs.map C.i := List.mem_map_of_mem hc
      rw [hi] at this
      obtain ⟨j, hj, e⟩ := List.mem_map.mp this
      exact ⟨j, List.mem_range.mp hj, e.symm⟩
    refine ⟨?_, fun c hc => ?_, 6, rfl, Nat.le_refl _, fun c hc => ?_⟩
    · refine ((P.map C.i).nodup_iff).mpr ?_
      rw [hi]
      rcases hst with rfl | rfl <;> decide
    · obtain ⟨j, _, e⟩ := hm c (P.mem_iff.mp hc)
      exact ⟨j, e⟩
    · obtain ⟨j, hj, e⟩ := hm c (P.mem_iff.mp hc)
      rcases hst with rfl | rfl <;> omega
  | skip _ _ ih =>
    obtain ⟨h1, h2, J, h3, h4, h5⟩ := ih
    exact ⟨h1, h2, J, h3, by omega, h5⟩
  | @take k cs o a r hr hb hs ih =>
    obtain ⟨h1, h2, J, h3, h4, h5⟩ := ih
    have hl := hr.len.1
    have P : r.Perm (⟨a, ns.getD k 0, o⟩ :: cs.eraseIdx 0) := (hs.perm (by rw [List.length_set]; omega)).trans (set_split (by omega) _)
    have hm : ∀ c ∈ r, c = ⟨a, ns.getD k 0, o⟩ ∨ c ∈ cs := fun c hc => by
      rcases List.mem_cons.mp (P.mem_iff.mp hc) with h | h
      · exact .inl h
      · exact .inr (List.mem_of_mem_eraseIdx h)
    refine ⟨?_, fun c hc => ?_, J + 1, ?_, by omega, fun c hc => ?_⟩
    · refine ((P.map C.i).nodup_iff).mpr ?_
      rw [List.map_cons]
      refine List.nodup_cons.mpr ⟨fun hin => ?_, ?_⟩
      · obtain ⟨c, hc, e⟩ := List.mem_map.mp hin
        have := h5 c (List.mem_of_mem_eraseIdx hc)
        have e' : c.i = o := e
        rcases hst with rfl | rfl <;> omega
      · exact (h1.sublist ((List.eraseIdx_sublist cs 0).map C.i))
    · rcases hm c hc with rfl | h
      · exact ⟨J, h3⟩
      · exact h2 c h
    · rcases hst with rfl | rfl <;> omega
    · rcases hm c hc with rfl | h
      · show st * o < _
        rcases hst with rfl | rfl <;> omega
      · have := h5 c h
        omega
theorem Run.nodup {lt : C → C → Bool} {bet : Int → Int → Bool} {st : Int} {ns : List Int} {k : Nat} {cs : List C} {o : Int} (hst : st = 1 ∨ st = -1) (h : Run lt bet st ns k cs o) (hk : k < 40) : (cs.map C.key).Nodup := by
  obtain ⟨h1, h2, J, h3, h4, h5⟩ := h.orders hst
  have hb : ∀ c ∈ cs, -50 < c.i ∧ c.i < 50 := fun c hc => by
    obtain ⟨j, e⟩ := h2 c hc
    have := h5 c hc
    rcases hst with rfl | rfl <;> omega
  have gen : ∀ l : List C, (l.map C.i).Nodup → (∀ c ∈ l, -50 < c.i ∧ c.i < 50) → (l.map C.key).Nodup := by
    intro l
    induction l with
    | nil => intro _ _; exact .nil
    | cons c l ih =>
      intro hn hb
      rw [List.map_cons] at hn ⊢
      obtain ⟨a1, a2⟩ := List.nodup_cons.mp hn
      refine List.nodup_cons.mpr ⟨fun hin => ?_, ih a2 fun d hd => hb d (.tail _ hd)⟩
      obtain ⟨d, hd, e⟩ := List.mem_map.mp hin
      refine a1 (List.mem_map.mpr ⟨d, hd, ?_⟩)
      have b1 := hb c (.head _)
      have b2 := hb d (.tail _ hd)
      unfold C.key at e
      omega
  exact gen cs h1 hb
theorem Run.small {lt : C → C → Bool} {bet : Int → Int → Bool} {st : Int} {ns : List Int} {k : Nat} {cs : List C} {o : Int} (hst : st = 1 ∨ st = -1) (h : Run lt bet st ns k cs o) (hk : k < 40) : -50 < o ∧ o < 50 := by
  obtain ⟨_, _, J, h3, h4, _⟩ := h.orders hst
  rcases hst with rfl | rfl <;> omega
theorem News.isListIter {h₀ h : Heap} {L I l : Addr} {oI : Obj} {k : Nat} {b : Addr × Obj} {r : List (Addr × Obj)} (N : News h₀ L h (b :: (I, oI) :: r)) (hI : LI oI l k) : h.IsListIter I l k := ⟨_, (N _ (.tail _ (.head _))).1, hI⟩
def NL (lt : C → C → Bool) (bet : Int → Int → Bool) (ord : C → C → Prop) (st : Int) (ns ys : List Int) : Prop :=
  ∃ (cs : List C) (o : Int) (r : List C), Run lt bet st ns 13 cs o ∧ r.Perm cs ∧ r.Pairwise ord ∧ ys = r.map C.x
abbrev frOf {h₀ h : Heap} {L : Addr} {m : Str → Option Value} (_ : Fr h₀ L h m) : Str → Option Value := m
theorem callWith_kwb {M : Model} {A : Around} {E : Value → Shared → Prop} {s : Shared} {env : Env} {pos : Pos} {id : String} {first : List Value} {name : Str} {b : Bool} {cp kp : Pos} {x1 : Nat} {Q : Value → Shared → Prop}
    (h : wpAny M A (call (.builtin id) first [(name, .bool b)]) Q E s) :
    wpAny M A (callWith pos (.builtin id) first (backTo pos (starEach [] env)) (backToKw pos (keywordEach [⟨some name, .Constant (.bool b) x1 cp, kp⟩] env))) Q E s := by
  refine callWith_builtin_kwB rfl rfl (evalArgs_kw2_nil rfl ?_)
  refine kws_cons ?_
  rw [show eval (.Constant (.bool b) x1 cp) env = pure (.bool b) from rfl]
  refine wpAny_pure ?_
  refine kws_nil ?_
  show wpAny M A (call (.builtin id) (first ++ []) [(name, .bool b)]) Q E s
  rw [List.append_nil]
  exact h
end Mine
end
section
open PySem PySem.W PyProof.Rows PySem.Spec PySem.Calls
set_option maxRecDepth 100000
set_option maxHeartbeats 1000000
namespace Mine
/-- what unorderable_list_difference does with the items from the end on -/
def uldGo : List Int → List Int → List Int → List Int × List Int
  | [], a, m => (m, a)
  | x :: xs, a, m => if x ∈ a then uldGo xs (a.erase x) m else uldGo xs a (m ++ [x])
def uld (e a : List Int) : List Int × List Int := uldGo e.reverse a []

theorem ints_kf {vs : List Value} {ns : List Int} (h : IntsAre vs ns) : kf_ints vs = true := by
  induction h with
  | nil => rfl
  | cons i t _ ih => exact ih
theorem ints_found {x : Int} {vs : List Value} {ns : List Int} (h : IntsAre vs ns) (hx : x ∈ ns) : ∃ j q, kf_at x vs = some j ∧ ki_delL vs j = some q ∧ IntsAre q (ns.erase x) := by
  induction h with
  | nil => exact absurd hx (by simp)
  | @cons i t vs ns hr ih =>
    by_cases e : i = x
    · subst e
      refine ⟨0, vs, ?_, rfl, ?_⟩
      · unfold kf_at
        rw [show isInt i (Value.int i t) = true by simp [isInt]]
        rfl
      · rw [List.erase_cons_head]; exact hr
    · obtain ⟨j, q, h1, h2, h3⟩ := ih (by
        rcases List.mem_cons.mp hx with h | h
        · exact absurd h.symm e
        · exact h)
      refine ⟨j + 1, .int i t :: q, ?_, ?_, ?_⟩
      · unfold kf_at
        rw [show isInt x (Value.int i t) = false by simp [isInt, e], h1]
        rfl
      · simp [ki_delL, h2]
      · rw [List.erase_cons_tail (by simpa using e)]
        exact .cons _ _ h3
theorem ints_missing {x : Int} {vs : List Value} {ns : List Int} (h : IntsAre vs ns) (hx : x ∉ ns) : ∀ v ∈ vs, isInt x v = false := by
  induction h with
  | nil => intro v hv; exact absurd hv (by simp)
  | @cons i t vs ns hr ih =>
    intro v hv
    rcases List.mem_cons.mp hv with rfl | hv
    · have : i ≠ x := fun e => hx (e ▸ .head _)
      simp [isInt, this]
    · exact ih (fun h => hx (.tail _ h)) v hv
section
variable {prog : Program} {w : World} {A : Around} {E : Value → Shared → Prop} {s : Shared} {h₀ : Heap} {L D : Addr} {m : Str → Option Value} {news : List (Addr × Obj)} {g : Obj → List (Addr × Obj)} {n : Nat}
theorem UpdF.upd {o : Obj} {l : List (Addr × Obj)} (U : UpdF D o l g) (o' : Obj) : Upd D o o' l (g o') := by
  induction U with
  | head h => exact .head h
  | tail h _ ih => exact .tail h ih
theorem UpdF.mem {o : Obj} {l : List (Addr × Obj)} (U : UpdF D o l g) : (D, o) ∈ l := by
  induction U with
  | head h => exact .head _
  | tail h _ ih => exact .tail _ ih
theorem c_remove {x : Int} {t : Tok} {qs : List Value} {as : List Int} {Q : Value → Shared → Prop} (F : Fr h₀ L s.heap m) (N : News h₀ L s.heap news) (U : UpdF D (listOf qs.toArray n) news g) (hi : IntsAre qs as) (hz : qs.length ≤ 1000) (hh : A.handled = none)
    (hy : x ∈ as → ∀ h' qs', Fr h₀ L h' m → News h₀ L h' (g (listOf qs'.toArray (n + 1))) → IntsAre qs' (as.erase x) → Q .none { s with heap := h' })
    (hn : x ∉ as → ∀ h' tk e, Heap.NewExc s.heap h' e "ValueError" → E (.ref e) { s with heap := h', toks := tk }) :
    wpAny (model prog w) A (call (.builtin "list.remove") [.ref D, .int x t]) Q E s := by
  by_cases hx : x ∈ as
  · obtain ⟨j, q, h1, h2, h3⟩ := ints_found hi hx
    exact kf_remove (its := qs.toArray) F N (ints_kf hi) h1 h2 (UpdF.upd U _) (by rw [sizeLine_eq]; show qs.length ≤ _; omega) fun h' F' N' => hy hx h' q F' N' h3
  · have hm := (N _ (UpdF.mem U)).1
    refine call_meets PySem.F.slot_list_remove ⟨_, hm, rfl⟩ PySem.F.entry_list_remove (PySem.F.args_list_remove_2 _ _)
      (MeetsSeq.list_remove_none D qs.toArray n (.int x t) (isInt x) (fun y hy => kf_eq (ints_kf hi) y (by simpa using hy)) fun i hi' => ?_) ⟨hm, hh, fun h' tk e he => hn hx h' tk e he⟩
    exact ints_missing hi hx _ (by simp)
end

theorem code_raise {prog : Program} {w : World} {A : Around} {s : Shared} {h₀ : Heap} {L : Addr} {m : Str → Option Value} {news : List (Addr × Obj)} {K : Frag} {p : Program} {loose : List Str} {mean : ExcName → Option Value} {mg mb : Str → Option Value} {env : Env}
    {R : Result → Shared → Prop} {name qual : Str} {params : Arguments} {body : List Stmt} {scope : Scope} {dV kV doc pm cdv ct oc : Value} {an od : Option Addr} {osl : Array (Option Value)} {f : Addr} {args : Args} {binds : List (Str × Value)}
    (F : Fr h₀ L s.heap m) (X₀ : K.In h₀) (N : News h₀ L s.heap news) (T : Top p loose mean mg mb h₀) (hf : env.frame = some L) (hke : env.scope.kind = .function)
    (ho : K.lookup f = some ⟨oc, od, .func (fnOf name qual params body scope dV kV doc pm an cdv ct), osl⟩) (hcd : codeIn K cdv qual = true) (hroom : A.depth < recursionLimit)
    (hbind : BindsTo s (fnOf name qual params body scope dV kV doc pm an cdv ct) args binds) (hloc : ∀ y ∈ binds, scope.names.lookup y.1 = some .local)
    (h : ∀ L' oL h₁, TI.Caller h₀ L m oL → TI.Frs [env] [(L, oL)] → (∀ p ∈ news, p.1 ≠ L) → L < L' → (∀ p ∈ news, p.1 < L') → Fr h₀ L' h₁ (fun y => binds.reverse.lookup y) → News h₀ L' h₁ (news ++ [(L, oL)]) →
      wpAny (model prog w) (A.deeper (envOf qual scope L' f cdv)) (execs body (envOf qual scope L' f cdv))
        (fun fl s' => TI.LeaveI s' (R (.ok (.ret (match fl with | .ret v => v | _ => .none))) s'))
        (fun e s' => wpAny (model prog w) (A.deeper (envOf qual scope L' f cdv)) (leaving (envOf qual scope L' f cdv) e) (fun _ s'' => TI.LeaveX (R (.error e) s'')) (fun e' s'' => TI.LeaveX (R (.error e') s'')) s')
        { s with heap := h₁, toks := s.toks + binds.length })
    (hco : scope.isCoroutine = false) (hgen : scope.isGenerator = false) (hk : scope.kind = .function)
    (hcell : ∀ x ∈ scope.names, x.2 ≠ .cell) : codeAny (model prog w) A (.call (.ref f) args) R s := by
  have X := X₀.keeps F.keep
  obtain ⟨oL, es, ep, hL, hLd, hLk, hLf⟩ := F.ns
  have hLt := Heap.lt_size hL
  refine codeAny_call_def (fd := fnOf name qual params body scope dV kV doc pm an cdv ct) (body := body) (binds := binds) hroom (X _ _ ho) rfl (T.nolimit.keeps F.keep) (codeRec_of X hcd) rfl hbind hcell hloc (fun h₁ hns hk₁ => ?_) hco hgen hk
  refine wpAny_mono (h s.heap.objs.size oL h₁ ⟨fun h' sl e => ⟨_, es, ep, e, hLd, hLk, hLf⟩, ⟨es, ep, hLd⟩, F.above⟩ ⟨by rw [hke]; decide, hf, ⟨es, ep, hLd⟩, trivial⟩ (fun p hp => (N p hp).2.1) hLt (fun p hp => Heap.lt_size (N p hp).1)
    ⟨hns, fun b o e => hk₁ b o (F.keep b o e), Nat.le_trans F.above (Nat.le_of_lt hLt)⟩ fun p hp => ?_) (fun _ _ x => x) fun _ _ x => wpAny_mono x (fun _ _ y => y) fun _ _ y => y
  rcases List.mem_append.mp hp with hp | hp
  · have z := N p hp
    exact ⟨hk₁ _ _ z.1, Nat.ne_of_lt (Heap.lt_size z.1), z.2.2⟩
  · rw [List.mem_singleton.mp hp]
    exact ⟨hk₁ _ _ hL, Nat.ne_of_lt hLt, Heap.get?_none_of_le F.above⟩
theorem c_append {prog : Program} {w : World} {A : Around} {E : Value → Shared → Prop} {s : Shared} {h₀ : Heap} {L D : Addr} {m : Str → Option Value} {news : List (Addr × Obj)} {g : Obj → List (Addr × Obj)} {n : Nat} {vs : List Value} {v : Value} {Q : Value → Shared → Prop}
    (F : Fr h₀ L s.heap m) (N : News h₀ L s.heap news) (U : UpdF D (listOf vs.toArray n) news g) (hz : vs.length ≤ 1000)
    (h : ∀ h', Fr h₀ L h' m → News h₀ L h' (g (listOf (vs ++ [v]).toArray (n + 1))) → Q .none { s with heap := h' }) :
    wpAny (model prog w) A (call (.builtin "list.append") [.ref D, v]) Q E s := by
  obtain ⟨pre, post, rfl, hg, a', b'⟩ := U.split
  have z := N (D, listOf vs.toArray n) (List.mem_append.mpr (.inr (.head _)))
  refine append_at (hsz := by rw [List.size_toArray, sizeLine_eq]; omega) z.1 fun h' hs hD => h h' (F.change hs z.2.1 z.2.2) ?_
  rw [hg]
  exact news_set N a' b' hs (by rw [hD]; simp)
structure NoName (x : Str) (p : Program) (loose : List Str) : Prop where
  t2 : x ∉ loose
  t3 : x ∉ (recsOf p).map (·.name)
  t4 : x ∉ (litsOf p).map (·.1)
  t5 : x ∉ (clssOf p loose).map (·.name)
/-- a walk halts at this -/
def Stop (P : Prop) : Prop := P
theorem stop {P : Prop} (h : Stop P) : P := h
theorem allNe_of {L : Addr} : ∀ {l : List (Addr × Obj)}, (∀ p ∈ l, p.1 ≠ L) → TLg.AllNe L l
  | [], _ => trivial
  | _ :: _, h => ⟨h _ (.head _), allNe_of fun p hp => h p (.tail _ hp)⟩
structure Ul where
  ps : List Value
  es : List Int
  np : Nat
  qs : List Value
  as : List Int
  nq : Nat
  ms : List Value
  mm : List Int
  nm : Nat
  sl : Array (Option Value)
theorem c_truthyL {prog : Program} {w : World} {A : Around} {E : Value → Shared → Prop} {s : Shared} {h₀ : Heap} {L D : Addr} {news : List (Addr × Obj)} {vs : List Value} {ns : List Int} {n : Nat} {Q : Bool → Shared → Prop} (N : News h₀ L s.heap news) (hm : (D, listOf vs.toArray n) ∈ news) (hi : IntsAre vs ns) (hz : vs.length ≤ 1000)
    (hy : ns ≠ [] → Q true { s with toks := s.toks + 1 + 1 }) (hn : ns = [] → Q false { s with toks := s.toks + 1 + 1 }) :
    wpAny (model prog w) A (truthy (.ref D)) Q E s := by
  refine wpAny_truthy_list (PySem.IsL.isList (n := n) (N _ hm).1) (by rw [List.size_toArray]; omega) ?_
  cases hi with
  | nil => exact hn rfl
  | cons i t r => exact hy (by simp)
theorem uld_turn {es as mm : List Int} (h : es ≠ []) : uldGo es.reverse as mm = if es.getLastD 0 ∈ as then uldGo es.dropLast.reverse (as.erase (es.getLastD 0)) mm else uldGo es.dropLast.reverse as (mm ++ [es.getLastD 0]) := by
  have e : es = es.dropLast ++ [es.getLastD 0] := by
    have := List.dropLast_concat_getLast h
    rw [List.getLastD_eq_getLast?, List.getLast?_eq_some_getLast h]
    exact this.symm
  conv => lhs; rw [e]
  rw [List.reverse_append]
  rfl
end Mine
end
section
open PySem PySem.W PyProof.Rows PySem.Spec PySem.Calls
set_option maxRecDepth 100000
set_option maxHeartbeats 1000000
namespace Mine
def lawDef : List Stmt × Scope := match PySem.Challenge.pw_mr0273_01.main.body.getLast? with
  | some (.FunctionDef _ _ b _ _ _ sc _ _ _) => (b, sc)
  | _ => ([], default)
def st (i : Nat) : Stmt := lawDef.1.getD i (.Pass ⟨0, 0, 0, 0⟩)
def lawScope : Scope := lawDef.2
theorem off1_mem {D : Addr} : ∀ {l : List (Addr × Obj)}, LCg.Off1 D l → ∀ p ∈ l, p.1 ≠ D
  | [], _, _, h => nomatch h
  | _ :: _, x, p, h => by
    rcases List.mem_cons.mp h with rfl | h
    · exact x.1
    · exact off1_mem x.2 p h
/-- the cells of law's frame at L -/
def lawCl (L : Addr) : List (Str × Addr) := cellsFrom (L + 1) lawScope.names []
abbrev lawEnv (L fa : Addr) (ccd : Value) : Env := envX (Str.ofString "law") lawScope L fa ccd (lawCl L)
abbrev lawA (dp un : Nat) (gd : Option (List Code)) (L fa : Addr) (ccd : Value) : Around := ktrTop dp un gd (Str.ofString "law") lawScope L fa ccd (lawCl L) []
theorem ne_add {L : Addr} {a b : Nat} (h : a ≠ b) : L + a ≠ L + b := fun e => h (Nat.add_left_cancel e)
section
variable {L : Addr} {o1 o2 o3 o4 o5 o6 o7 o8 : Obj} {objs : List (Addr × Obj)}
theorem upd1 (h : ∀ q ∈ objs, (L + 8 : Nat) < q.1) : UpdF (L + 1) o1 ((L + 1, o1) :: (L + 2, o2) :: (L + 3, o3) :: (L + 4, o4) :: (L + 5, o5) :: (L + 6, o6) :: (L + 7, o7) :: (L + 8, o8) :: objs) (fun o => (L + 1, o) :: (L + 2, o2) :: (L + 3, o3) :: (L + 4, o4) :: (L + 5, o5) :: (L + 6, o6) :: (L + 7, o7) :: (L + 8, o8) :: objs) := by
  refine .head fun q hq => ?_
  rcases List.mem_cons.mp hq with rfl | hq
  · exact ne_add (L := L) (a := 2) (b := 1) (by decide)
  rcases List.mem_cons.mp hq with rfl | hq
  · exact ne_add (L := L) (a := 3) (b := 1) (by decide)
  rcases List.mem_cons.mp hq with rfl | hq
  · exact ne_add (L := L) (a := 4) (b := 1) (by decide)
  rcases List.mem_cons.mp hq with rfl | hq
  · exact ne_add (L := L) (a := 5) (b := 1) (by decide)
  rcases List.mem_cons.mp hq with rfl | hq
  · exact ne_add (L := L) (a := 6) (b := 1) (by decide)
  rcases List.mem_cons.mp hq with rfl | hq
  · exact ne_add (L := L) (a := 7) (b := 1) (by decide)
  rcases List.mem_cons.mp hq with rfl | hq
  · exact ne_add (L := L) (a := 8) (b := 1) (by decide)
  exact Nat.ne_of_gt (Nat.lt_of_le_of_lt (Nat.add_le_add_left (by decide : 1 ≤ 8) L) (h q hq))
theorem upd2 (h : ∀ q ∈ objs, (L + 8 : Nat) < q.1) : UpdF (L + 2) o2 ((L + 1, o1) :: (L + 2, o2) :: (L + 3, o3) :: (L + 4, o4) :: (L + 5, o5) :: (L + 6, o6) :: (L + 7, o7) :: (L + 8, o8) :: objs) (fun o => (L + 1, o1) :: (L + 2, o) :: (L + 3, o3) :: (L + 4, o4) :: (L + 5, o5) :: (L + 6, o6) :: (L + 7, o7) :: (L + 8, o8) :: objs) := by
  refine .tail (ne_add (L := L) (a := 1) (b := 2) (by decide)) ?_
  refine .head fun q hq => ?_
  rcases List.mem_cons.mp hq with rfl | hq
  · exact ne_add (L := L) (a := 3) (b := 2) (by decide)
  rcases List.mem_cons.mp hq with rfl | hq
  · exact ne_add (L := L) (a := 4) (b := 2) (by decide)
  rcases List.mem_cons.mp hq with rfl | hq
  · exact ne_add (L := L) (a := 5) (b := 2) (by decide)
  rcases List.mem_cons.mp hq with rfl | hq
  · exact ne_add (L := L) (a := 6) (b := 2) (by decide)
  rcases List.mem_cons.mp hq with rfl | hq
  · exact ne_add (L := L) (a := 7) (b := 2) (by decide)
  rcases List.mem_cons.mp hq with rfl | hq
  · exact ne_add (L := L) (a := 8) (b := 2) (by decide)
  exact Nat.ne_of_gt (Nat.lt_of_le_of_lt (Nat.add_le_add_left (by decide : 2 ≤ 8) L) (h q hq))
theorem upd3 (h : ∀ q ∈ objs, (L + 8 : Nat) < q.1) : UpdF (L + 3) o3 ((L + 1, o1) :: (L + 2, o2) :: (L + 3, o3) :: (L + 4, o4) :: (L + 5, o5) :: (L + 6, o6) :: (L + 7, o7) :: (L + 8, o8) :: objs) (fun o => (L + 1, o1) :: (L + 2, o2) :: (L + 3, o) :: (L + 4, o4) :: (L + 5, o5) :: (L + 6, o6) :: (L + 7, o7) :: (L + 8, o8) :: objs) := by
  refine .tail (ne_add (L := L) (a := 1) (b := 3) (by decide)) ?_
  refine .tail (ne_add (L := L) (a := 2) (b := 3) (by decide)) ?_
  refine .head fun q hq => ?_
  rcases List.mem_cons.mp hq with rfl | hq
  · exact ne_add (L := L) (a := 4) (b := 3) (by decide)
  rcases List.mem_cons.mp hq with rfl | hq
  · exact ne_add (L := L) (a := 5) (b := 3) (by decide)
  rcases List.mem_cons.mp hq with rfl | hq
  · exact ne_add (L := L) (a := 6) (b := 3) (by decide)
  rcases List.mem_cons.mp hq with rfl | hq
  · exact ne_add (L := L) (a := 7) (b := 3) (by decide)
  rcases List.mem_cons.mp hq with rfl | hq
  · exact ne_add (L := L) (a := 8) (b := 3) (by decide)
  exact Nat.ne_of_gt (Nat.lt_of_le_of_lt (Nat.add_le_add_left (by decide : 3 ≤ 8) L) (h q hq))
theorem upd4 (h : ∀ q ∈ objs, (L + 8 : Nat) < q.1) : UpdF (L + 4) o4 ((L + 1, o1) :: (L + 2, o2) :: (L + 3, o3) :: (L + 4, o4) :: (L + 5, o5) :: (L + 6, o6) :: (L + 7, o7) :: (L + 8, o8) :: objs) (fun o => (L + 1, o1) :: (L + 2, o2) :: (L + 3, o3) :: (L + 4, o) :: (L + 5, o5) :: (L + 6, o6) :: (L + 7, o7) :: (L + 8, o8) :: objs) := by
  refine .tail (ne_add (L := L) (a := 1) (b := 4) (by decide)) ?_
  refine .tail (ne_add (L := L) (a := 2) (b := 4) (by decide)) ?_
  refine .tail (ne_add (L := L) (a := 3) (b := 4) (by decide)) ?_
  refine .head fun q hq => ?_
  rcases List.mem_cons.mp hq with rfl | hq
  · exact ne_add (L := L) (a := 5) (b := 4) (by decide)
  rcases List.mem_cons.mp hq with rfl | hq
  · exact ne_add (L := L) (a := 6) (b := 4) (by decide)
  rcases List.mem_cons.mp hq with rfl | hq
  · exact ne_add (L := L) (a := 7) (b := 4) (by decide)
  rcases List.mem_cons.mp hq with rfl | hq
  · exact ne_add (L := L) (a := 8) (b := 4) (by decide)
  exact Nat.ne_of_gt (Nat.lt_of_le_of_lt (Nat.add_le_add_left (by decide : 4 ≤ 8) L) (h q hq))
theorem upd5 (h : ∀ q ∈ objs, (L + 8 : Nat) < q.1) : UpdF (L + 5) o5 ((L + 1, o1) :: (L + 2, o2) :: (L + 3, o3) :: (L + 4, o4) :: (L + 5, o5) :: (L + 6, o6) :: (L + 7, o7) :: (L + 8, o8) :: objs) (fun o => (L + 1, o1) :: (L + 2, o2) :: (L + 3, o3) :: (L + 4, o4) :: (L + 5, o) :: (L + 6, o6) :: (L + 7, o7) :: (L + 8, o8) :: objs) := by
  refine .tail (ne_add (L := L) (a := 1) (b := 5) (by decide)) ?_
  refine .tail (ne_add (L := L) (a := 2) (b := 5) (by decide)) ?_
  refine .tail (ne_add (L := L) (a := 3) (b := 5) (by decide)) ?_
  refine .tail (ne_add (L := L) (a := 4) (b := 5) (by decide)) ?_
  refine .head fun q hq => ?_
  rcases List.mem_cons.mp hq with rfl | hq
  · exact ne_add (L := L) (a := 6) (b := 5) (by decide)
  rcases List.mem_cons.mp hq with rfl | hq
  · exact ne_add (L := L) (a := 7) (b := 5) (by decide)
  rcases List.mem_cons.mp hq with rfl | hq
  · exact ne_add (L := L) (a := 8) (b := 5) (by decide)
  exact Nat.ne_of_gt (Nat.lt_of_le_of_lt (Nat.add_le_add_left (by decide : 5 ≤ 8) L) (h q hq))
theorem upd6 (h : ∀ q ∈ objs, (L + 8 : Nat) < q.1) : UpdF (L + 6) o6 ((L + 1, o1) :: (L + 2, o2) :: (L + 3, o3) :: (L + 4, o4) :: (L + 5, o5) :: (L + 6, o6) :: (L + 7, o7) :: (L + 8, o8) :: objs) (fun o => (L + 1, o1) :: (L + 2, o2) :: (L + 3, o3) :: (L + 4, o4) :: (L + 5, o5) :: (L + 6, o) :: (L + 7, o7) :: (L + 8, o8) :: objs) := by
  refine .tail (ne_add (L := L) (a := 1) (b := 6) (by decide)) ?_
  refine .tail (ne_add (L := L) (a := 2) (b := 6) (by decide)) ?_
  refine .tail (ne_add (L := L) (a := 3) (b := 6) (by decide)) ?_
  refine .tail (ne_add (L := L) (a := 4) (b := 6) (by decide)) ?_
  refine .tail (ne_add (L := L) (a := 5) (b := 6) (by decide)) ?_
  refine .head fun q hq => ?_
  rcases List.mem_cons.mp hq with rfl | hq
  · exact ne_add (L := L) (a := 7) (b := 6) (by decide)
  rcases List.mem_cons.mp hq with rfl | hq
  · exact ne_add (L := L) (a := 8) (b := 6) (by decide)
  exact Nat.ne_of_gt (Nat.lt_of_le_of_lt (Nat.add_le_add_left (by decide : 6 ≤ 8) L) (h q hq))
theorem upd7 (h : ∀ q ∈ objs, (L + 8 : Nat) < q.1) : UpdF (L + 7) o7 ((L + 1, o1) :: (L + 2, o2) :: (L + 3, o3) :: (L + 4, o4) :: (L + 5, o5) :: (L + 6, o6) :: (L + 7, o7) :: (L + 8, o8) :: objs) (fun o => (L + 1, o1) :: (L + 2, o2) :: (L + 3, o3) :: (L + 4, o4) :: (L + 5, o5) :: (L + 6, o6) :: (L + 7, o) :: (L + 8, o8) :: objs) := by
  refine .tail (ne_add (L := L) (a := 1) (b := 7) (by decide)) ?_
  refine .tail (ne_add (L := L) (a := 2) (b := 7) (by decide)) ?_
  refine .tail (ne_add (L := L) (a := 3) (b := 7) (by decide)) ?_
  refine .tail (ne_add (L := L) (a := 4) (b := 7) (by decide)) ?_
  refine .tail (ne_add (L := L) (a := 5) (b := 7) (by decide)) ?_
  refine .tail (ne_add (L := L) (a := 6) (b := 7) (by decide)) ?_
  refine .head fun q hq => ?_
  rcases List.mem_cons.mp hq with rfl | hq
  · exact ne_add (L := L) (a := 8) (b := 7) (by decide)
  exact Nat.ne_of_gt (Nat.lt_of_le_of_lt (Nat.add_le_add_left (by decide : 7 ≤ 8) L) (h q hq))
theorem upd8 (h : ∀ q ∈ objs, (L + 8 : Nat) < q.1) : UpdF (L + 8) o8 ((L + 1, o1) :: (L + 2, o2) :: (L + 3, o3) :: (L + 4, o4) :: (L + 5, o5) :: (L + 6, o6) :: (L + 7, o7) :: (L + 8, o8) :: objs) (fun o => (L + 1, o1) :: (L + 2, o2) :: (L + 3, o3) :: (L + 4, o4) :: (L + 5, o5) :: (L + 6, o6) :: (L + 7, o7) :: (L + 8, o) :: objs) := by
  refine .tail (ne_add (L := L) (a := 1) (b := 8) (by decide)) ?_
  refine .tail (ne_add (L := L) (a := 2) (b := 8) (by decide)) ?_
  refine .tail (ne_add (L := L) (a := 3) (b := 8) (by decide)) ?_
  refine .tail (ne_add (L := L) (a := 4) (b := 8) (by decide)) ?_
  refine .tail (ne_add (L := L) (a := 5) (b := 8) (by decide)) ?_
  refine .tail (ne_add (L := L) (a := 6) (b := 8) (by decide)) ?_
  refine .tail (ne_add (L := L) (a := 7) (b := 8) (by decide)) ?_
  refine .head fun q hq => ?_
  exact Nat.ne_of_gt (Nat.lt_of_le_of_lt (Nat.add_le_add_left (by decide : 8 ≤ 8) L) (h q hq))
end
end Mine
end
section
open PySem PySem.W PyProof.Rows PySem.Spec PySem.Calls PyProof.Rows.LCg
set_option maxRecDepth 100000
set_option maxHeartbeats 2000000
namespace Mine
section
variable {prog : Program} {w : World} {A : Around} {E : Value → Shared → Prop} {s : Shared} {h₀ : Heap} {L : Addr} {m : Str → Option Value} {env : Env}
theorem rgIter_st {I : Addr} {a c : Int} {n : Nat} : ∀ i (h h' : Heap) (o : Obj) (nw : List (Addr × Obj)), IsRangeIter h I (a + (i : Nat) * c) ((n : Int) - (i : Nat)) c → h.get? I = some o → h'.get? I = some o → (∀ b o, h₀.get? b = some o → h'.get? b = some o) → News h₀ L h' nw → True → IsRangeIter h' I (a + (i : Nat) * c) ((n : Int) - (i : Nat)) c :=
  fun i h h' o nw st e e' _ _ _ => by
    have st' : h.get? I = some _ := st
    show h'.get? I = some _
    rw [e', ← e]; exact st'
/-- a comprehension with one test over a range of any step -/
theorem ListComp_D {ct elt iter : Expr} {x : Str} {px : Pos} {scope : Scope} {cl : List (Str × Addr)} {pos : Pos} {Q : Value → Shared → Prop}
    (hclos : closureFor scope env = pure cl) (hcell : ∀ y ∈ scope.names, y.2 ≠ .cell) (hkind : scope.kind = .function)
    (hnames : ∀ y ∈ scope.names, y.2 = .local → scope.names.lookup y.1 = some .local) (hx : scope.names.lookup x = some .local)
    (h : wpAny (model prog w) A (eval iter env) (fun xv s₁ => ∃ r a b c t u v n news, xv = .ref r ∧ A.handled = none ∧ Fr h₀ L s₁.heap m ∧ News h₀ L s₁.heap news ∧ IsRange s₁.heap r a b c t u v ∧ Builtin.Range.small a b c = true ∧
      Builtin.Range.rangeSize a b c = ((n : Nat) : Int) ∧ n ≤ sizeLine ∧ ∀ g, LCt.CompRestT prog w A h₀ L m env ct elt x scope cl { s₁ with heap := g } (fun _ => True) (fun i v => ∃ t, v = .int (a + (i : Int) * c) t) (FinE h₀ L m { s₁ with heap := g } Q) n 0 [] news) E s)
    (hs : ∀ x, foldedSetIterable iter env x = pure x := by intro _; rfl) :
    wpAny (model prog w) A (eval (.ListComp elt [⟨.Name x px, iter, [ct], 0⟩] scope pos) env) Q E s := by
  rw [eval_ListComp]
  refine wpAny_comprehension_free (use := none) rfl hs hclos hkind hnames (wpAny_mono h (fun xv s₁ h₁ => ?_) fun _ _ e => e)
  obtain ⟨r, a, b, c, t, u, v, n, news, rfl, hh, F, N, hr, hsm, hn, hsz, R⟩ := h₁
  refine wpAny_pyIter_range hr hsm ?_
  refine LCt.block_T (Walks.range hh s₁.heap.objs.size a c n) hsz (fun i h st => ⟨_, st⟩) rgIter_st hcell hkind hx (by show IsRangeIter _ _ _ _ _; rw [hn]; simpa using Heap.get?_push_size _ rfl) (fun b hb => ?_)
    (F.keeps fun _ _ e => Heap.get?_push_of_some _ e) (N.grown fun _ _ e => Heap.get?_push_of_some _ e) (Nat.ne_of_lt F.ns.lt) (next_is_new F) (fun p hp => Nat.ne_of_lt (Heap.lt_size (N p hp).1)) trivial (R _) ?_
  · rw [List.mem_singleton.mp hb]
    show s₁.heap.objs.size < (s₁.heap.push _).objs.size
    rw [Heap.size_push]; exact Nat.lt_succ_self _
  · intro D C h tk m' ys news' F' N' o1 hn hC₀ hD₀ hCL hDL hCD offC fin
    refine ⟨m', hn, fun h'' hs'' => fin D h'' tk (F'.change hs'' hCL hC₀) (fun p hp => ?_) o1⟩
    refine ⟨hs''.extBut _ _ ?_ (N' p hp).1, (N' p hp).2⟩
    rcases List.mem_cons.mp hp with rfl | hp
    · exact Ne.symm hCD
    · exact offC p hp
end
theorem ints_count {x : Int} {vs : List Value} {ns : List Int} (h : IntsAre vs ns) : vs.countP (isInt x) = ns.count x := by
  induction h with
  | nil => rfl
  | @cons i t vs ns hr ih =>
    rw [List.countP_cons, List.count_cons, ih]
    rfl
theorem c_count {prog : Program} {w : World} {A : Around} {E : Value → Shared → Prop} {s : Shared} {h₀ : Heap} {L D : Addr} {news : List (Addr × Obj)} {vs : List Value} (ns : List Int) {n : Nat} {x : Int} {t : Tok} {Q : Value → Shared → Prop} (N : News h₀ L s.heap news) (hm : (D, listOf vs.toArray n) ∈ news) (hi : IntsAre vs ns)
    (h : Q (.int ((ns.count x : Nat) : Int) s.toks) { s with toks := s.toks + 1 }) : wpAny (model prog w) A (call (.builtin "list.count") [.ref D, .int x t]) Q E s := by
  refine call_meets PySem.F.slot_list_count ⟨_, (N _ hm).1, rfl⟩ PySem.F.entry_list_count (PySem.F.args_list_count_2 _ _)
    (MeetsSeq.list_count D vs.toArray n (.int x t) (isInt x) (fun y hy => kf_eq (ints_kf hi) y (by simpa using hy))) ⟨(N _ hm).1, ?_⟩
  show Q (.int (vs.countP (isInt x) : Nat) s.toks) _
  rw [ints_count hi]
  exact h
section
variable {prog : Program} {w : World} {A : Around} {E : Value → Shared → Prop} {s : Shared} {h₀ : Heap} {L a b : Addr} {news : List (Addr × Obj)} {vs us : List Value} {ns ms : List Int} {n k : Nat} {Q : Value → Shared → Prop}
theorem c_ne0 (N : News h₀ L s.heap news) (hm : (a, listOf vs.toArray n) ∈ news) (hm' : (b, listOf us.toArray k) ∈ news) (hi : IntsAre vs ns) (hi' : IntsAre us ms) (hu : A.units + 64 < cLine) (e : ns = ms) (h : Q (.bool false) s) :
    wpAny (model prog w) A (compareOp .NotEq (.ref a) (.ref b)) Q E s :=
  ne_intsK (PySem.IsL.isList (n := n) (N _ hm).1) hi (PySem.IsL.isList (n := k) (N _ hm').1) hi' hu (by rw [show decide (ns = ms) = true by simp [e]]; exact h)
theorem c_ne (N : News h₀ L s.heap news) (hm : (a, listOf vs.toArray n) ∈ news) (hm' : (b, listOf us.toArray k) ∈ news) (hi : IntsAre vs ns) (hi' : IntsAre us ms) (hu : A.units + 64 < cLine) (h : Q (.bool (!decide (ns = ms))) s) :
    wpAny (model prog w) A (compareOp .NotEq (.ref a) (.ref b)) Q E s :=
  ne_intsK (PySem.IsL.isList (n := n) (N _ hm).1) hi (PySem.IsL.isList (n := k) (N _ hm').1) hi' hu h
theorem c_eq0 (N : News h₀ L s.heap news) (hm : (a, listOf vs.toArray n) ∈ news) (hm' : (b, listOf us.toArray k) ∈ news) (hi : IntsAre vs ns) (hi' : IntsAre us ms) (hu : A.units + 64 < cLine) (e : ns ≠ ms) (h : Q (.bool false) s) :
    wpAny (model prog w) A (compareOp .Eq (.ref a) (.ref b)) Q E s :=
  eq_intsK (PySem.IsL.isList (n := n) (N _ hm).1) hi (PySem.IsL.isList (n := k) (N _ hm').1) hi' hu (by rw [show decide (ns = ms) = false by simp [e]]; exact h)
theorem c_eq1 (N : News h₀ L s.heap news) (hm : (a, listOf vs.toArray n) ∈ news) (hm' : (b, listOf us.toArray k) ∈ news) (hi : IntsAre vs ns) (hi' : IntsAre us ms) (hu : A.units + 64 < cLine) (e : ns = ms) (h : Q (.bool true) s) :
    wpAny (model prog w) A (compareOp .Eq (.ref a) (.ref b)) Q E s :=
  eq_intsK (PySem.IsL.isList (n := n) (N _ hm).1) hi (PySem.IsL.isList (n := k) (N _ hm').1) hi' hu (by rw [show decide (ns = ms) = true by simp [e]]; exact h)
end
section
variable {L : Addr} {o1 o2 o3 o4 o5 o6 o7 o8 : Obj} {objs : List (Addr × Obj)}
theorem upd1n (h : ∀ q ∈ objs, q.1 ≠ L + 1) : UpdF (L + 1) o1 ((L + 1, o1) :: (L + 2, o2) :: (L + 3, o3) :: (L + 4, o4) :: (L + 5, o5) :: (L + 6, o6) :: (L + 7, o7) :: (L + 8, o8) :: objs) (fun o => (L + 1, o) :: (L + 2, o2) :: (L + 3, o3) :: (L + 4, o4) :: (L + 5, o5) :: (L + 6, o6) :: (L + 7, o7) :: (L + 8, o8) :: objs) := by
  refine .head fun q hq => ?_
  rcases List.mem_cons.mp hq with rfl | hq
  · exact ne_add (L := L) (a := 2) (b := 1) (by decide)
  rcases List.mem_cons.mp hq with rfl | hq
  · exact ne_add (L := L) (a := 3) (b := 1) (by decide)
  rcases List.mem_cons.mp hq with rfl | hq
  · exact ne_add (L := L) (a := 4) (b := 1) (by decide)
  rcases List.mem_cons.mp hq with rfl | hq
  · exact ne_add (L := L) (a := 5) (b := 1) (by decide)
  rcases List.mem_cons.mp hq with rfl | hq
  · exact ne_add (L := L) (a := 6) (b := 1) (by decide)
  rcases List.mem_cons.mp hq with rfl | hq
  · exact ne_add (L := L) (a := 7) (b := 1) (by decide)
  rcases List.mem_cons.mp hq with rfl | hq
  · exact ne_add (L := L) (a := 8) (b := 1) (by decide)
  exact h q hq
theorem upd2n (h : ∀ q ∈ objs, q.1 ≠ L + 2) : UpdF (L + 2) o2 ((L + 1, o1) :: (L + 2, o2) :: (L + 3, o3) :: (L + 4, o4) :: (L + 5, o5) :: (L + 6, o6) :: (L + 7, o7) :: (L + 8, o8) :: objs) (fun o => (L + 1, o1) :: (L + 2, o) :: (L + 3, o3) :: (L + 4, o4) :: (L + 5, o5) :: (L + 6, o6) :: (L + 7, o7) :: (L + 8, o8) :: objs) := by
  refine .tail (ne_add (L := L) (a := 1) (b := 2) (by decide)) ?_
  refine .head fun q hq => ?_
  rcases List.mem_cons.mp hq with rfl | hq
  · exact ne_add (L := L) (a := 3) (b := 2) (by decide)
  rcases List.mem_cons.mp hq with rfl | hq
  · exact ne_add (L := L) (a := 4) (b := 2) (by decide)
  rcases List.mem_cons.mp hq with rfl | hq
  · exact ne_add (L := L) (a := 5) (b := 2) (by decide)
  rcases List.mem_cons.mp hq with rfl | hq
  · exact ne_add (L := L) (a := 6) (b := 2) (by decide)
  rcases List.mem_cons.mp hq with rfl | hq
  · exact ne_add (L := L) (a := 7) (b := 2) (by decide)
  rcases List.mem_cons.mp hq with rfl | hq
  · exact ne_add (L := L) (a := 8) (b := 2) (by decide)
  exact h q hq
end
/-- the ones that are told as missing, by counting -/
def missAt (ones others : List Int) (l : List Int) (k : Int) : List Int :=
  if ((others.count (ones.getD k.toNat 0) : Nat) : Int) < (((ones.drop k.toNat).count (ones.getD k.toNat 0) : Nat) : Int) then l ++ [ones.getD k.toNat 0] else l
def leftAt (ones others : List Int) (l : List Int) (k : Int) : List Int :=
  if ((ones.count (others.getD k.toNat 0) : Nat) : Int) < (((others.take (k.toNat + 1)).count (others.getD k.toNat 0) : Nat) : Int) then l ++ [others.getD k.toNat 0] else l
theorem missAt_grows (ones others : List Int) : KPfGrows (missAt ones others) := by
  intro l k
  unfold missAt
  split <;> simp
theorem leftAt_grows (ones others : List Int) : KPfGrows (leftAt ones others) := by
  intro l k
  unfold leftAt
  split <;> simp
end Mine
end
section
open PySem PySem.W PyProof.Rows PySem.Spec PySem.Calls
set_option maxRecDepth 100000
set_option maxHeartbeats 1000000
namespace Mine
section
variable {prog : Program} {w : World} {A : Around} {E : Value → Shared → Prop} {s : Shared} {h₀ : Heap} {L : Addr} {env : Env}
/-- a turn's end in a loop over range(n) -/
def KrfEnd {σ : Type} (h₀ : Heap) (L : Addr) (s : Shared) (I : Addr) (n : Nat) (Led : σ → List (Addr × Obj)) (ps : σ → List (Str × Value)) (stored : List Str) (m₀ : Str → Option Value) (P : Nat → σ → Prop) (k : Nat) (s₂ : Shared) : Prop :=
  ∃ (c' : σ) (h' : Heap) (tk : Nat) (m' : Str → Option Value), s₂ = { s with heap := h', toks := tk } ∧ Fr h₀ L h' m' ∧ News h₀ L h' ((I, rgIt (k : Int) ((n : Int) - (k : Int)) 1) :: Led c') ∧ (∀ p ∈ ps c', m' p.1 = some p.2) ∧ (∀ z, (∀ p ∈ ps c', z ≠ p.1) → stored.contains z = false → m' z = m₀ z) ∧ P k c'
def KrfPost {σ : Type} (h₀ : Heap) (L : Addr) (s : Shared) (I : Addr) (n : Nat) (Led : σ → List (Addr × Obj)) (ps : σ → List (Str × Value)) (stored : List Str) (m₀ : Str → Option Value) (P : Nat → σ → Prop) (Q : Flow → Shared → Prop) (k : Nat) (f : Flow) (s₂ : Shared) : Prop :=
  match f with
  | .ret v => Q (.ret v) s₂
  | .brk => Q .next s₂
  | _ => KrfEnd h₀ L s I n Led ps stored m₀ P k s₂
theorem krf_range {σ : Type} {target : Expr} {body : List Stmt} {I : Addr} {n : Nat} {Q : Flow → Shared → Prop} {m₀ : Str → Option Value} (Led : σ → List (Addr × Obj)) (ps : σ → List (Str × Value)) (stored : List Str) (P : Nat → σ → Prop) (c₀ : σ)
    (hh : A.handled = none) (F : Fr h₀ L s.heap m₀) (N : News h₀ L s.heap ((I, rgIt 0 (n : Int) 1) :: Led c₀)) (hk : ∀ p ∈ ps c₀, m₀ p.1 = some p.2) (hp : P 0 c₀)
    (hoff : ∀ k c, P k c → ∀ p ∈ Led c, p.1 ≠ I)
    (turn : ∀ (k : Nat) (t : Tok) (c : σ) (u : Str → Option Value) (h : Heap) (tk : Nat) (R : Flow → Shared → Prop), PTo (KrfPost h₀ L s I n Led ps stored m₀ P Q (k + 1)) R → k < n → P k c → Fr h₀ L h (kstB (fun z => if stored.contains z then u z else m₀ z) (ps c)) → News h₀ L h ((I, rgIt ((k + 1 : Nat) : Int) ((n : Int) - ((k + 1 : Nat) : Int)) 1) :: Led c) →
      wpAny (model prog w) A (assign target env (.int (k : Int) t)) (fun _ s₂ => wpAny (model prog w) A (execs body env) (Post R) E s₂) E { s with heap := h, toks := tk })
    (done : ∀ (c : σ) (u : Str → Option Value) (h : Heap) (tk : Nat), P n c → Fr h₀ L h (kstB (fun z => if stored.contains z then u z else m₀ z) (ps c)) → News h₀ L h (Led c) → Q .next { s with heap := h, toks := tk })
    (hE : PassesOwn (model prog w) A env E) (ht : ∀ v, letOwnedTupleGo target (.ref I) v = pure ()) :
    FRest (model prog w) A E env target (.ref I) body Q s := by
  have key : ∀ (d k : Nat), n - k = d → k ≤ n → ∀ s', KrfEnd h₀ L s I n Led ps stored m₀ P k s' → FRest (model prog w) A E env target (.ref I) body Q s' := by
    intro d
    induction d with
    | zero =>
      rintro k hd hk s' ⟨c, h, tk, m', rfl, F', N', h1, h2, hP⟩
      have : k = n := by omega
      subst this
      refine for_turn hE ht ?_
      exact next_range_end hh F' N' (hoff _ c hP) (by omega) fun h' F'' N'' => done c m' h' _ hP (ksw_fr h1 h2 F'') N''
    | succ d ih =>
      rintro k hd hk s' ⟨c, h, tk, m', rfl, F', N', h1, h2, hP⟩
      have hlt : k < n := by omega
      refine for_turn hE ht ?_
      refine next_range ((k + 1 : Nat) : Int) ((n : Int) - ((k + 1 : Nat) : Int)) F' N' (hoff _ c hP) (by omega) (by omega) (by omega) fun h' F'' N'' => ?_
      refine wpAny_mono (turn k _ c m' h' _ _ ⟨fun _ _ x => x⟩ hlt hP (ksw_fr h1 h2 F'') N'') (fun _ s₂ q => ?_) fun _ _ x => x
      refine wpAny_mono q (fun f s₃ q => ?_) fun _ _ x => x
      cases f with
      | ret v => exact q
      | brk => exact q
      | next => exact ih (k + 1) (by omega) (by omega) s₃ q
      | cont => exact ih (k + 1) (by omega) (by omega) s₃ q
  exact key _ 0 rfl (by omega) s ⟨c₀, s.heap, s.toks, m₀, rfl, F, by simpa using N, hk, fun _ _ _ => rfl, hp⟩
theorem krf_end {σ : Type} {I : Addr} {n : Nat} {Led : σ → List (Addr × Obj)} {ps : σ → List (Str × Value)} {stored : List Str} {m₀ m' : Str → Option Value} {P : Nat → σ → Prop} {k : Nat} {h' : Heap} {tk : Nat} (c' : σ)
    (F : Fr h₀ L h' m') (N : News h₀ L h' ((I, rgIt (k : Int) ((n : Int) - (k : Int)) 1) :: Led c')) (hk : ∀ p ∈ ps c', m' p.1 = some p.2) (hr : ∀ z, (∀ p ∈ ps c', z ≠ p.1) → stored.contains z = false → m' z = m₀ z) (hp : P k c') :
    KrfEnd h₀ L s I n Led ps stored m₀ P k { s with heap := h', toks := tk } := ⟨c', h', tk, m', rfl, F, N, hk, hr, hp⟩
/-- iter(range(0, n)) as the for begins -/
theorem iter_range {r : Addr} {n : Nat} {t u v : Tok} {news : List (Addr × Obj)} {m : Str → Option Value} {Q : Value → Shared → Prop} (F : Fr h₀ L s.heap m) (N : News h₀ L s.heap news) (hr : IsRange s.heap r 0 (n : Int) 1 t u v) (hsm : Builtin.Range.small 0 (n : Int) 1 = true) (hn : Builtin.Range.rangeSize 0 (n : Int) 1 = (n : Int))
    (h : ∀ I h', Fr h₀ L h' m → News h₀ L h' ((I, rgIt 0 (n : Int) 1) :: news) → (∀ p ∈ news, p.1 < I) → Q (.ref I) { s with heap := h' }) :
    wpAny (model prog w) A (pyIter (.ref r)) Q E s := by
  refine wpAny_pyIter_range hr hsm (h _ _ (F.push _) ?_ fun p hp => Heap.lt_size (N p hp).1)
  rw [hn]
  exact N.push F _
end
theorem c_lenI {prog : Program} {w : World} {A : Around} {E : Value → Shared → Prop} {s : Shared} {h₀ : Heap} {L D : Addr} {news : List (Addr × Obj)} {vs : List Value} {ns : List Int} {n : Nat} {Q : Value → Shared → Prop} (N : News h₀ L s.heap news) (hm : (D, listOf vs.toArray n) ∈ news) (hi : IntsAre vs ns) (hz : ns.length ≤ 1000)
    (h : Q (.int ((ns.length : Nat) : Int) (s.toks + 1)) { s with toks := s.toks + 1 + 1 }) : wpAny (model prog w) A (call (.builtin "len") [.ref D]) Q E s :=
  len_list (PySem.IsL.isList (n := n) (N _ hm).1) (by rw [List.size_toArray, hi.length]; omega) (by rw [List.size_toArray, hi.length]; exact h)
theorem cells_off {L D : Addr} {o1 o2 o3 o4 o5 o6 o7 o8 : Obj} {objs : List (Addr × Obj)} (h8 : (L + 8 : Nat) < D) (h : ∀ q ∈ objs, q.1 ≠ D) : ∀ q ∈ (L + 1, o1) :: (L + 2, o2) :: (L + 3, o3) :: (L + 4, o4) :: (L + 5, o5) :: (L + 6, o6) :: (L + 7, o7) :: (L + 8, o8) :: objs, q.1 ≠ D := by
  intro q hq
  rcases List.mem_cons.mp hq with rfl | hq
  · exact Nat.ne_of_lt (Nat.lt_of_le_of_lt (Nat.add_le_add_left (by decide : 1 ≤ 8) L) h8)
  rcases List.mem_cons.mp hq with rfl | hq
  · exact Nat.ne_of_lt (Nat.lt_of_le_of_lt (Nat.add_le_add_left (by decide : 2 ≤ 8) L) h8)
  rcases List.mem_cons.mp hq with rfl | hq
  · exact Nat.ne_of_lt (Nat.lt_of_le_of_lt (Nat.add_le_add_left (by decide : 3 ≤ 8) L) h8)
  rcases List.mem_cons.mp hq with rfl | hq
  · exact Nat.ne_of_lt (Nat.lt_of_le_of_lt (Nat.add_le_add_left (by decide : 4 ≤ 8) L) h8)
  rcases List.mem_cons.mp hq with rfl | hq
  · exact Nat.ne_of_lt (Nat.lt_of_le_of_lt (Nat.add_le_add_left (by decide : 5 ≤ 8) L) h8)
  rcases List.mem_cons.mp hq with rfl | hq
  · exact Nat.ne_of_lt (Nat.lt_of_le_of_lt (Nat.add_le_add_left (by decide : 6 ≤ 8) L) h8)
  rcases List.mem_cons.mp hq with rfl | hq
  · exact Nat.ne_of_lt (Nat.lt_of_le_of_lt (Nat.add_le_add_left (by decide : 7 ≤ 8) L) h8)
  rcases List.mem_cons.mp hq with rfl | hq
  · exact Nat.ne_of_lt (Nat.lt_of_le_of_lt (Nat.add_le_add_left (by decide : 8 ≤ 8) L) h8)
  exact h q hq
/-- the level of a gap -/
def level (mi le : List Int) (g : Int) : Int := (((mi.filter fun x => decide (x ≤ g)).length : Nat) : Int) - (((le.filter fun x => decide (x ≤ g)).length : Nat) : Int)
def levelsTo (mi le : List Int) (k : Nat) : List Int := (List.range k).map fun g : Nat => level mi le (g : Int)
theorem levelsTo_succ (mi le : List Int) (k : Nat) : levelsTo mi le (k + 1) = levelsTo mi le k ++ [level mi le (k : Int)] := by
  unfold levelsTo
  rw [List.range_succ, List.map_append]
  rfl
def leAt (g : Int) (l : List Int) (x : Int) : List Int := if x ≤ g then l ++ [x] else l
theorem leAt_grows (g : Int) : KPfGrows (leAt g) := by
  intro l k
  unfold leAt
  split <;> simp
theorem leAt_fold (g : Int) : ∀ (ns l : List Int), ns.foldl (leAt g) l = l ++ ns.filter fun x => decide (x ≤ g)
  | [], l => by simp
  | x :: ns, l => by
    rw [List.foldl_cons, leAt_fold g ns]
    unfold leAt
    by_cases h : x ≤ g
    · simp [h]
    · simp [h]
end Mine
end
section
open PySem PySem.W PyProof.Rows PySem.Spec PySem.Calls
set_option maxRecDepth 100000
set_option maxHeartbeats 1000000
namespace Mine
/-- _law_over -/
def over (g h t : Int) : Int := if (t - h).fmod 13 ≤ 6 ∧ (g - h).fmod 13 < (t - h).fmod 13 then 1 else if 6 < (t - h).fmod 13 ∧ (g - t).fmod 13 < 13 - (t - h).fmod 13 then -1 else 0
theorem code_defG {prog : Program} {w : World} {A₀ A : Around} {s : Shared} {base h₀ : Heap} {outer : List Env} {L : Addr} {m : Str → Option Value} {env : Env} {news : List (Addr × Obj)} {K : Frag} {p : Program} {loose : List Str} {mean : ExcName → Option Value} {mg mb : Str → Option Value}
    {R : Result → Shared → Prop} {name qual : Str} {params : Arguments} {body : List Stmt} {scope : Scope} {dV kV doc pm cdv ct oc : Value} {an od : Option Addr} {osl : Array (Option Value)} {f : Addr} {args : Args} {binds : List (Str × Value)}
    (B : Below A₀ base outer h₀) (F : Fr h₀ L s.heap m) (X₀ : K.In h₀) (N : News h₀ L s.heap news) (T : Top p loose mean mg mb h₀) (hA : A.frames = some (env :: outer)) (hf : env.frame = some L) (hke : env.scope.kind = .function)
    (ho : K.lookup f = some ⟨oc, od, .func (fnOf name qual params body scope dV kV doc pm an cdv ct), osl⟩) (hcd : codeIn K cdv qual = true) (hroom : A.depth < recursionLimit)
    (hbind : BindsTo s (fnOf name qual params body scope dV kV doc pm an cdv ct) args binds) (hloc : ∀ y ∈ binds, scope.names.lookup y.1 = some .local)
    (h : ∀ g L' h₁, (∀ b o, s.heap.get? b = some o → b ∉ news.map (·.1) → g.get? b = some o) → Fr h₀ L g m → Fr g L' h₁ (fun y => binds.reverse.lookup y) → News g L' h₁ news → Below A base (env :: outer) g → K.In g → Top p loose mean mg mb g →
      wpAny (model prog w) (A.deeper (envOf qual scope L' f cdv)) (execs body (envOf qual scope L' f cdv))
        (fun fl s' => LeaveK h₀ L m g R (match fl with | .ret v => v | _ => .none) s')
        (fun e s' => wpAny (model prog w) (A.deeper (envOf qual scope L' f cdv)) (leaving (envOf qual scope L' f cdv) e) (fun _ s'' => R (.error e) s'') (fun e' s'' => R (.error e') s'') s')
        { s with heap := h₁, toks := s.toks + binds.length })
    (hco : scope.isCoroutine = false) (hgen : scope.isGenerator = false) (hk : scope.kind = .function)
    (hcell : ∀ x ∈ scope.names, x.2 ≠ .cell) : codeAny (model prog w) A (.call (.ref f) args) R s := by
  obtain ⟨FG, BG, st, lv⟩ := groundX (R := R) B F N hA hf hke
  refine codeAny_call_def (fd := fnOf name qual params body scope dV kV doc pm an cdv ct) (body := body) (binds := binds) hroom ((X₀.keeps F.keep) _ _ ho) rfl (T.nolimit.keeps F.keep) (codeRec_of (X₀.keeps F.keep) hcd) rfl hbind hcell hloc (fun h₁ hns hk₁ => ?_) hco hgen hk
  exact wpAny_mono (h _ s.heap.objs.size h₁ (fun b o e hb => hideAll_get _ e hb) FG ⟨hns, fun b o e => hk₁ b o (of_hideAll _ e), Nat.le_of_eq (hideAll_size _ _)⟩
    (fun p hp => ⟨hk₁ _ _ (N p hp).1, Nat.ne_of_lt (Heap.lt_size (N p hp).1), hideAll_none _ (List.mem_map_of_mem hp)⟩) BG (X₀.keeps st) (T.keeps st)) (fun fl s' hl => lv _ _ hl) fun _ _ y => y
theorem iter_list {prog : Program} {w : World} {A : Around} {E : Value → Shared → Prop} {s : Shared} {h₀ : Heap} {L l : Addr} {m : Str → Option Value} {news : List (Addr × Obj)} {vs : List Value} {n : Nat} {Q : Value → Shared → Prop} (F : Fr h₀ L s.heap m) (N : News h₀ L s.heap news) (hm : (l, listOf vs.toArray n) ∈ news)
    (h : ∀ I h' oI, Fr h₀ L h' m → News h₀ L h' ((I, oI) :: news) → AllLt I news → LI oI l 0 → Q (.ref I) { s with heap := h' }) :
    wpAny (model prog w) A (pyIter (.ref l)) Q E s :=
  wpAny_pyIter_list (PySem.IsL.isList (n := n) (N _ hm).1) (h _ _ _ (F.push _) (News.push F N _ rfl) (allLt_of fun q hq => Heap.lt_size (N q hq).1) ⟨rfl, rfl⟩)
theorem c_item {prog : Program} {w : World} {A : Around} {E : Value → Shared → Prop} {s : Shared} {h₀ : Heap} {L D : Addr} {news : List (Addr × Obj)} {vs : List Value} {n : Nat} {k : Int} {u : Tok} {v : Value} {value slice : PySem.Expr} {Q : Value → Shared → Prop} (N : News h₀ L s.heap news) (hm : (D, listOf vs.toArray n) ∈ news) (h0 : 0 ≤ k) (hfit : k < 2 ^ 63) (hx : vs[k.toNat]? = some v) (h : Q v s)
    (hs : subscripted slice false (.ref D) (.int k u) = operate [.ref D, .int k u] (getItem (.ref D) (.int k u)) := by with_unfolding_all rfl) :
    wpAny (model prog w) A (subscriptTail value slice (.ref D) (.int k u)) Q E s :=
  have hl := PySem.IsL.isList (n := n) (N _ hm).1
  tail_any hl.typeIs slot_list_getitem.lookup (wpAny_getItem_list hl h0 hfit (by rw [List.getElem?_toArray]; exact hx) h) hs
/-- what the call has not seen stands as it stood -/
theorem rest_back {h₀ g h hF : Heap} {L L' : Addr} {m' : Str → Option Value} {P : Addr} {o : Obj} {rest : List (Addr × Obj)} (N : News h₀ L h ((P, o) :: rest)) (hP : ∀ q ∈ rest, q.1 ≠ P) (hg : ∀ b o', h.get? b = some o' → b ∉ [P] → g.get? b = some o') (F' : Fr g L' hF m') :
    News h₀ L hF rest ∧ ∀ x, g.get? x = none → TLg.AllNe x rest := by
  have k : ∀ q ∈ rest, g.get? q.1 = some q.2 := fun q hq => hg _ _ (N q (.tail _ hq)).1 (by simpa using hP q hq)
  refine ⟨fun q hq => ⟨F'.keep _ _ (k q hq), (N q (.tail _ hq)).2⟩, fun x hx => allNe_of fun q hq e => ?_⟩
  have := k q hq
  rw [e, hx] at this
  cases this
theorem news_app {h₀ h : Heap} {L : Addr} {a b : List (Addr × Obj)} (Na : News h₀ L h a) (Nb : News h₀ L h b) : News h₀ L h (a ++ b) := fun p hp => (List.mem_append.mp hp).elim (Na p) (Nb p)
end Mine
end
section
open PySem PySem.W PyProof.Rows PySem.Spec PySem.Calls PyProof.Rows.LCg
set_option maxRecDepth 100000
set_option maxHeartbeats 2000000
namespace Mine
section
variable {prog : Program} {w : World} {A : Around} {E : Value → Shared → Prop} {s : Shared} {h₀ : Heap} {L : Addr} {m : Str → Option Value} {env : Env}
theorem news_upd {h h' : Heap} {D : Addr} {o o' : Obj} {rest : List (Addr × Obj)} (N : News h₀ L h ((D, o) :: rest)) (hD : ∀ p ∈ rest, p.1 ≠ D) (hs : Heap.SameBut D h h') (ho : h'.get? D = some o') : News h₀ L h' ((D, o') :: rest) :=
  news_set (pre := []) N (fun _ h => nomatch h) hD hs ho
/-- a comprehension over range(n) whose name is kept in a cell (an inner comprehension reads it) -/
theorem ListComp_C {elt iter : Expr} {x : Str} {px : Pos} {scope : Scope} {cl : List (Str × Addr)} {pos : Pos} {Q : Value → Shared → Prop} {news : List (Addr × Obj)} (g : Nat → Int)
    (hclos : closureFor scope env = pure cl) (hcf : ∀ n, cellsFrom n scope.names cl = (x, n) :: cl) (hpc : ∀ h : Heap, pushCells h scope.names = h.push { cls := .type "cell", data := .cell none }) (hkind : scope.kind = .function)
    (hnames : ∀ y ∈ scope.names, y.2 = .local → scope.names.lookup y.1 = some .local) (hxk : (relabel scope env).names.lookup x = some .cell)
    (h : ∀ K : Value → Shared → Prop, (∀ (s₁ : Shared) (r : Addr) (n : Nat) (t u v : Tok), A.handled = none → Fr h₀ L s₁.heap m → News h₀ L s₁.heap news → IsRange s₁.heap r 0 (n : Int) 1 t u v → Builtin.Range.small 0 (n : Int) 1 = true → Builtin.Range.rangeSize 0 (n : Int) 1 = (n : Int) → n ≤ 1000 →
      (∀ (k : Nat) (t : Tok) (I : Addr) (oI : Obj) (C : Addr) (oC : Obj) (G : Addr) (oG : Obj) (D : Addr) (ys : List Value) (h : Heap) (tk : Nat) (E' K' : Value → Shared → Prop),
        (∀ h' tk' t', Fr h₀ L h' m → News h₀ L h' ((I, oI) :: (D, lst ys) :: (C, oC) :: (G, oG) :: news) → K' (.int (g k) t') { s₁ with heap := h', toks := tk' }) →
        k < n → oG.data = .cell (some (.int (k : Int) t)) → Fr h₀ L h m → News h₀ L h ((I, oI) :: (D, lst ys) :: (C, oC) :: (G, oG) :: news) →
        wpAny (model prog w) A (eval elt (compEnvC scope ((x, G) :: cl) C env)) (PostV K') E' { s₁ with heap := h, toks := tk }) →
      (∀ D ys h tk, IntsAre ys ((List.range n).map g) → Fr h₀ L h m → News h₀ L h ((D, lst ys) :: news) → (∀ q ∈ news, q.1 < D) → Q (.ref D) { s₁ with heap := h, toks := tk }) → K (.ref r) s₁) → wpAny (model prog w) A (eval iter env) (PostV K) E s)
    (hs : ∀ x, foldedSetIterable iter env x = pure x := by intro _; rfl) :
    wpAny (model prog w) A (eval (.ListComp elt [⟨.Name x px, iter, [], 0⟩] scope pos) env) Q E s := by
  rw [eval_ListComp]
  refine wpAny_comprehension_free (use := none) rfl hs hclos hkind hnames (h _ fun s₁ r n t u v hh F N hr hsm hn hsz turn fin => ?_)
  refine wpAny_pyIter_range hr hsm ?_
  rw [hn]
  refine wpAny_newObj_type ?_
  simp only [newFunctionEnv, Option.isSome_some, if_true]
  refine wpAny_bind (wpAny_alloc ?_)
  refine wpAny_bind (wpAny_layCells _ (fun name kind cells => by cases hkc : kind == NameKind.cell <;> simp [hkc]) _ _ _ _ ?_)
  rw [hcf, hpc]
  refine wpAny_bind (wpAny_pure ?_)
  refine wpAny_pure ?_
  dsimp only
  have lt0 : ∀ q ∈ news, q.1 < s₁.heap.objs.size := fun q hq => Heap.lt_size (N q hq).1
  have F1 := F.push { cls := .type "range_iterator", data := .fields #[rawInt 0, rawInt (n : Int), rawInt 1] }
  have N1 := News.push F N { cls := .type "range_iterator", data := .fields #[rawInt 0, rawInt (n : Int), rawInt 1] } rfl
  have z1 : (s₁.heap.push { cls := .type "range_iterator", data := .fields #[rawInt 0, rawInt (n : Int), rawInt 1] }).objs.size = s₁.heap.objs.size + 1 := Heap.size_push ..
  generalize s₁.heap.push { cls := .type "range_iterator", data := .fields #[rawInt 0, rawInt (n : Int), rawInt 1] } = H1 at F1 N1 z1 ⊢
  have F2 := F1.push { cls := .type "list", data := .seq #[] }
  have N2 := News.push F1 N1 { cls := .type "list", data := .seq #[] } rfl
  have z2 : (H1.push { cls := .type "list", data := .seq #[] }).objs.size = H1.objs.size + 1 := Heap.size_push ..
  generalize H1.push { cls := .type "list", data := .seq #[] } = H2 at F2 N2 z2 ⊢
  have F3 := F2.push { cls := .type "dict", data := .dict #[] }
  have N3 := News.push F2 N2 { cls := .type "dict", data := .dict #[] } rfl
  have z3 : (H2.push { cls := .type "dict", data := .dict #[] }).objs.size = H2.objs.size + 1 := Heap.size_push ..
  have ns3 := ns_obj (Heap.Ns.new H2 (.type "dict"))
  generalize H2.push { cls := .type "dict", data := .dict #[] } = H3 at F3 N3 z3 ns3 ⊢
  have F4 := F3.push { cls := .type "cell", data := .cell none }
  have N4 := News.push F3 N3 { cls := .type "cell", data := .cell none } rfl
  generalize H3.push { cls := .type "cell", data := .cell none } = H4 at F4 N4 ⊢
  obtain ⟨oC, heC, hoC⟩ := ns3
  have e3 : H3.get? H2.objs.size = some { cls := .type "dict", data := .dict #[] } := (N3 _ (.head _)).1
  rw [heC] at e3
  injection e3 with e3
  rw [← e3] at N4
  generalize hI : s₁.heap.objs.size = I at lt0 z1 N4 ⊢
  generalize hD : H1.objs.size = D at z1 z2 N4 ⊢
  generalize hC : H2.objs.size = C at z2 z3 N4 ⊢
  generalize hG : H3.objs.size = G at z3 N4 ⊢
  have iD : I < D := by rw [z1]; exact Nat.lt_succ_self _
  have iC : D < C := by rw [z2]; exact Nat.lt_succ_self _
  have iG : C < G := by rw [z3]; exact Nat.lt_succ_self _
  have lD : ∀ q ∈ news, q.1 < D := fun q hq => Nat.lt_trans (lt0 q hq) iD
  have lC : ∀ q ∈ news, q.1 < C := fun q hq => Nat.lt_trans (lD q hq) iC
  have lG : ∀ q ∈ news, q.1 < G := fun q hq => Nat.lt_trans (lC q hq) iG
  have loop : ∀ s₃ : Shared, s₃ = { s₁ with heap := H4 } →
      codeAny (model prog w) A (.compLoop (.ListComp elt [⟨.Name x px, iter, [], 0⟩] scope pos) 0 (.ref I) (.ref D) (compEnvC scope ((x, G) :: cl) C env)) (compPost (model prog w) A E none Q (.ref D) C) s₃ := by
    rintro s₃ rfl
    refine codeAny_compLoop_tests
      (fun k s' => ∀ R : Nat → Shared → Prop, (∀ h' tk i ys oG vG, i ≤ n → IntsAre ys ((List.range i).map g) → Fr h₀ L h' m → oG.data = .cell vG →
        News h₀ L h' ((I, rgIt (i : Int) ((n : Int) - (i : Int)) 1) :: (D, lst ys) :: (C, oC) :: (G, oG) :: news) → R (n + 1 - i) { s₁ with heap := h', toks := tk }) → R k s') ?_ (n + 1)
      (fun R kR => kR H4 s₁.toks 0 [] _ none (Nat.zero_le _) .nil F4 rfl (news_sub N4 (by simp only [Int.natCast_zero, Int.sub_zero]; kcf_all)))
    intro k s' hInv
    apply hInv
    clear hInv k s'
    intro h' tk i ys oG vG hi hys F' dG N'
    have hyl : ys.length = i := by rw [hys.length, List.length_map, List.length_range]
    have oI : ∀ q ∈ (D, lst ys) :: (C, oC) :: (G, oG) :: news, q.1 ≠ I := by
      intro q hq
      rcases List.mem_cons.mp hq with rfl | hq
      · exact Nat.ne_of_gt iD
      rcases List.mem_cons.mp hq with rfl | hq
      · exact Nat.ne_of_gt (Nat.lt_trans iD iC)
      rcases List.mem_cons.mp hq with rfl | hq
      · exact Nat.ne_of_gt (Nat.lt_trans (Nat.lt_trans iD iC) iG)
      · exact Nat.ne_of_lt (lt0 q hq)
    by_cases hlt : i < n
    · refine next_range ((i + 1 : Nat) : Int) ((n : Int) - ((i + 1 : Nat) : Int)) F' N' oI (by omega) (by omega) (by omega) fun h₂ F₂ N₂ => ?_
      have N₂' : News h₀ L h₂ ((G, oG) :: (I, rgIt ((i + 1 : Nat) : Int) ((n : Int) - ((i + 1 : Nat) : Int)) 1) :: (D, lst ys) :: (C, oC) :: news) := news_sub N₂ (by kcf_all)
      have zG := N₂' _ (.head _)
      refine wpAny_assign_Name (wpAny_storeName_cell (c := G) (by simp [compEnvC, relabel, hkind]) hxk (by simp [compEnvC]) ⟨oG, zG.1, dG⟩ fun h₃ hc₃ hs₃ => ?_)
      obtain ⟨oG', heG, dG'⟩ := hc₃
      have F₃ := F₂.change hs₃ zG.2.1 zG.2.2
      have N₃ := news_upd N₂' (fun q hq => by
        rcases List.mem_cons.mp hq with rfl | hq
        · exact Nat.ne_of_lt (Nat.lt_trans (Nat.lt_trans iD iC) iG)
        rcases List.mem_cons.mp hq with rfl | hq
        · exact Nat.ne_of_lt (Nat.lt_trans iC iG)
        rcases List.mem_cons.mp hq with rfl | hq
        · exact Nat.ne_of_lt iG
        · exact Nat.ne_of_lt (lG q hq)) hs₃ heG
      refine wpAny_tests_nil ?_
      simp only [if_true]
      refine turn i _ I _ C oC G oG' D ys h₃ _ _ _ (fun h₄ tk₄ t' F₄ N₄ => ?_) hlt dG' F₃ (news_sub N₃ (by kcf_all))
      have N₄' : News h₀ L h₄ ((D, listOf ys.toArray ys.length) :: (I, rgIt ((i + 1 : Nat) : Int) ((n : Int) - ((i + 1 : Nat) : Int)) 1) :: (C, oC) :: (G, oG') :: news) := news_sub N₄ (by kcf_all)
      refine c_append (n := ys.length) (vs := ys) F₄ N₄' (.head fun q hq => ?_) (by omega) fun h₅ F₅ N₅ => ?_
      · rcases List.mem_cons.mp hq with rfl | hq
        · exact Nat.ne_of_lt iD
        rcases List.mem_cons.mp hq with rfl | hq
        · exact Nat.ne_of_gt iC
        rcases List.mem_cons.mp hq with rfl | hq
        · exact Nat.ne_of_gt (Nat.lt_trans iC iG)
        · exact Nat.ne_of_lt (lD q hq)
      refine ⟨n + 1 - (i + 1), by omega, fun R kR => kR h₅ tk₄ (i + 1) (ys ++ [.int (g i) t']) oG' _ hlt ?_ F₅ dG' ?_⟩
      · rw [List.range_succ, List.map_append]
        exact ints_snoc hys _ _
      · have e : lst (ys ++ [Value.int (g i) t']) = listOf (ys ++ [Value.int (g i) t']).toArray (ys.length + 1) := by
          show ({ cls := .type "list", data := .seq _ _ } : Obj) = { cls := .type "list", data := .seq _ _ }
          rw [List.length_append, List.length_singleton]
        rw [e]
        exact news_sub N₅ (by kcf_all)
    · obtain rfl : i = n := Nat.le_antisymm hi (Nat.not_lt.mp hlt)
      refine next_range_end hh F' N' oI (by omega) fun h₂ F₂ N₂ => ?_
      have zC := N₂ (C, oC) (by kcf_m)
      refine ⟨_, hoC.ns zC.1, fun h₃ hs₃ => fin D ys h₃ tk hys (F₂.change hs₃ zC.2.1 zC.2.2) (fun q hq => ?_) lD⟩
      have hq' : q ∈ (D, lst ys) :: (C, oC) :: (G, oG) :: news := by
        rcases List.mem_cons.mp hq with rfl | hq
        · exact .head _
        · exact .tail _ (.tail _ (.tail _ hq))
      refine ⟨hs₃.extBut _ _ ?_ (N₂ q hq').1, (N₂ q hq').2⟩
      rcases List.mem_cons.mp hq with rfl | hq
      · exact Nat.ne_of_lt iC
      · exact Nat.ne_of_lt (lC q hq)
  exact codeAny_compStart_list (loop _ rfl) (wpAny_pyIter_rangeiter (N4 (I, _) (by kcf_m)).1 (loop _ rfl))
end
end Mine
end
section
open PySem PySem.W PyProof.Rows PySem.Spec PySem.Calls
set_option maxRecDepth 100000
set_option maxHeartbeats 1000000
namespace Mine
/-- the two statements of the last loop -/
def lp (i : Nat) : Stmt := match st 16 with
  | .For _ _ b _ _ => b.getD i (.Pass ⟨0, 0, 0, 0⟩)
  | _ => .Pass ⟨0, 0, 0, 0⟩
def flowAt (ones ord : List Int) (g : Int) : Int := ((List.range 3).map fun i : Nat => over g (ones.getD i 0) (ord.getD i 0)).sum
def flowOf (ones ord : List Int) : List Int := (List.range 13).map fun g : Nat => flowAt ones ord (g : Int)
def stepMin (h t : Int) : Int := if (t - h).fmod 13 < (h - t).fmod 13 then (t - h).fmod 13 else (h - t).fmod 13
def costOf (ones ord : List Int) : Int := ((List.range 3).map fun i : Nat => stepMin (ones.getD i 0) (ord.getD i 0)).sum
theorem rangeKs3 (f : Int → Int) : (rangeKs 0 3).map f = [f 0, f 1, f 2] := rfl
end Mine
end
section
open PySem PySem.W PyProof.Rows PySem.Spec PySem.Calls
set_option maxRecDepth 100000
set_option maxHeartbeats 1000000
namespace Mine
/-- a flow that the last loop has made -/
structure FO where
  a : Addr
  vs : List Value
def fobs (fl : List FO) : List (Addr × Obj) := fl.map fun f => (f.a, listOf f.vs.toArray f.vs.length)
def frefs (fl : List FO) : List Value := fl.map fun f => .ref f.a
theorem fobs_mem {fl : List FO} {q : Addr × Obj} (h : q ∈ fobs fl) : ∃ f ∈ fl, q = (f.a, listOf f.vs.toArray f.vs.length) := by
  obtain ⟨f, hf, e⟩ := List.mem_map.mp h
  exact ⟨f, hf, e.symm⟩
structure Fst where
  fl : List FO
  nf : Nat
  cv : List Value
  nc : Nat
  o7 : Obj
def ords (a1 a3 a5 : Int) : List (List Int) := [[a1, a3, a5], [a1, a5, a3], [a3, a1, a5], [a3, a5, a1], [a5, a1, a3], [a5, a3, a1]]
def FlowsAre (ones : List Int) (os : List (List Int)) (fl : List FO) : Prop := ∀ j f, fl[j]? = some f → IntsAre f.vs (flowOf ones (os.getD j []))
theorem FlowsAre.snoc {ones : List Int} {os : List (List Int)} {fl : List FO} (h : FlowsAre ones os fl) {f : FO} {k : Nat} {o : List Int} (hk : fl.length = k) (ho : os[k]? = some o) (hf : IntsAre f.vs (flowOf ones o)) : FlowsAre ones os (fl ++ [f]) := by
  intro j f' hj
  by_cases hlt : j < fl.length
  · rw [List.getElem?_append_left hlt] at hj
    exact h j f' hj
  · rw [List.getElem?_append_right (by omega)] at hj
    have e : j - fl.length = 0 := by
      have := (List.getElem?_eq_some_iff.mp hj).1
      simpa using this
    rw [e] at hj
    have : j = k := by omega
    subst this
    simp at hj
    subst hj
    rw [List.getD_eq_getElem?_getD, ho]
    exact hf
theorem costs_snoc {ones : List Int} {os : List (List Int)} {cv : List Value} {k : Nat} {o : List Int} {t : Tok} (h : IntsAre cv ((os.take k).map (costOf ones))) (ho : os[k]? = some o) : IntsAre (cv ++ [.int (costOf ones o) t]) ((os.take (k + 1)).map (costOf ones)) := by
  rw [List.take_add_one, ho, List.map_append]
  exact ints_snoc h _ _
end Mine
end
section
open PySem PySem.W PyProof.Rows PySem.Spec PySem.Calls
set_option maxRecDepth 100000
set_option maxHeartbeats 1000000
namespace Mine
theorem body_eq : lawDef.1 = [st 0, st 1, st 2, st 3, st 4, st 5, st 6, st 7, st 8, st 9, st 10, st 11, st 12, st 13, st 14, st 15, st 16, st 17, st 18] := rfl
theorem fr_head {h₀ h : Heap} {L : Addr} {m : Str → Option Value} {x : Str} {v : Value} (F : Fr h₀ L h m) (e : m x = some v) : Fr h₀ L h (fun y => if y = x then some v else m y) := by
  have : (fun y => if y = x then some v else m y) = m := by
    funext y
    by_cases h : y = x
    · rw [if_pos h, h, e]
    · rw [if_neg h]
  rw [this]; exact F
theorem ints6 {ys : List Value} {l : List Int} (h : IntsAre ys l) (h6 : l.length = 6) : ∃ a0 a1 a2 a3 a4 a5 t0 t1 t2 t3 t4 t5, ys = [.int a0 t0, .int a1 t1, .int a2 t2, .int a3 t3, .int a4 t4, .int a5 t5] ∧ l = [a0, a1, a2, a3, a4, a5] := by
  cases h with
  | nil => cases h6
  | cons a0 t0 h => cases h with
    | nil => cases h6
    | cons a1 t1 h => cases h with
      | nil => cases h6
      | cons a2 t2 h => cases h with
        | nil => cases h6
        | cons a3 t3 h => cases h with
          | nil => cases h6
          | cons a4 t4 h => cases h with
            | nil => cases h6
            | cons a5 t5 h => cases h with
              | nil => exact ⟨a0, a1, a2, a3, a4, a5, t0, t1, t2, t3, t4, t5, rfl, rfl⟩
              | cons _ _ _ => simp at h6
/-- what the plain law must tell of six draws -/
structure Plain (a0 a1 a2 a3 a4 a5 : Int) : Prop where
  p1 : (uld [a0, a2, a4] [a1, a3, a5]).1 = [2, 1, 0].foldl (missAt [a0, a2, a4] [a1, a3, a5]) []
  p2 : (uld [a0, a2, a4] [a1, a3, a5]).2 = [0, 1, 2].foldl (leftAt [a0, a2, a4] [a1, a3, a5]) []
  p3 : (uld [a0, a2, a4] [a1, a3, a5]).1.length ≤ 3
  p3' : (uld [a0, a2, a4] [a1, a3, a5]).2.length ≤ 3
  p4 : ∀ hi lo, NL ltMin (fun e t => decide (t < e)) (fun c d => d.key < c.key) (-1) (levelsTo (uld [a0, a2, a4] [a1, a3, a5]).1 (uld [a0, a2, a4] [a1, a3, a5]).2 13) hi →
    NL ltMax (fun e t => decide (e < t)) (fun c d => c.key < d.key) 1 (levelsTo (uld [a0, a2, a4] [a1, a3, a5]).1 (uld [a0, a2, a4] [a1, a3, a5]).2 13) lo →
    hi.length = 6 ∧ lo.length = 6 ∧ (∀ zs : List Int, zs.Perm (hi ++ lo) → zs.Pairwise (· ≤ ·) → hi ++ lo.reverse = zs.reverse) ∧
    (uld (hi ++ lo) (levelsTo (uld [a0, a2, a4] [a1, a3, a5]).1 (uld [a0, a2, a4] [a1, a3, a5]).2 13)).1 = [] ∧
    ∃ md, (uld (hi ++ lo) (levelsTo (uld [a0, a2, a4] [a1, a3, a5]).1 (uld [a0, a2, a4] [a1, a3, a5]).2 13)).2 = [md] ∧
      ∀ k : Nat, k < 6 → (∀ x ∈ (ords a1 a3 a5).map (costOf [a0, a2, a4]), ((ords a1 a3 a5).map (costOf [a0, a2, a4])).getD k 0 ≤ x) →
        flowOf [a0, a2, a4] ((ords a1 a3 a5).getD k []) = (levelsTo (uld [a0, a2, a4] [a1, a3, a5]).1 (uld [a0, a2, a4] [a1, a3, a5]).2 13).map fun x => x - md
end Mine
end
section
open PySem PySem.W PyProof.Rows PySem.Spec PySem.Calls
set_option maxRecDepth 100000
set_option maxHeartbeats 1000000
namespace Mine
/-- a list that _law_orders has made -/
structure LO where
  a : Addr
  vs : List Value
def lobs (ls : List LO) : List (Addr × Obj) := ls.map fun f => (f.a, listOf f.vs.toArray 0)
def lrefs (ls : List LO) : List Value := ls.map fun f => .ref f.a
def permsV : Nat → List Value → List (List Value)
  | 0, _ => [[]]
  | n + 1, vs => (List.range (n + 1)).flatMap fun i => (permsV n (vs.take i ++ vs.drop (i + 1))).map (vs.getD i .none :: ·)
theorem small_le {n : Nat} (h : n + 1 ≤ 3) : Builtin.Range.small 0 ((n + 1 : Nat) : Int) 1 = true := by
  match n, h with
  | 0, _ => decide
  | 1, _ => decide
  | 2, _ => decide
theorem size_le {n : Nat} (h : n + 1 ≤ 3) : Builtin.Range.rangeSize 0 ((n + 1 : Nat) : Int) 1 = ((n + 1 : Nat) : Int) := by
  match n, h with
  | 0, _ => decide
  | 1, _ => decide
  | 2, _ => decide
structure Os where
  ls : List LO
  nR : Nat
theorem lobs_mem {ls : List LO} {q : Addr × Obj} (h : q ∈ lobs ls) : ∃ f ∈ ls, q = (f.a, listOf f.vs.toArray 0) := by
  obtain ⟨f, hf, e⟩ := List.mem_map.mp h
  exact ⟨f, hf, e.symm⟩
theorem mvA {q r x d i p : Addr × Obj} {l1 l2 rest : List (Addr × Obj)} (h : q ∈ r :: (l1 ++ x :: (l2 ++ d :: i :: p :: rest))) : q ∈ x :: (l2 ++ d :: i :: r :: (l1 ++ p :: rest)) := by
  simp only [List.mem_cons, List.mem_append] at h ⊢
  rcases h with h | h | h | h | h | h | h | h <;> simp only [h, true_or, or_true]
theorem mvB {q r i p : Addr × Obj} {l1 rest l : List (Addr × Obj)} (hl : ∀ q ∈ i :: p :: rest, q ∈ l) (h : q ∈ i :: r :: (l1 ++ p :: rest)) : q ∈ r :: (l1 ++ l) := by
  rcases List.mem_cons.mp h with rfl | h
  · exact .tail _ (List.mem_append_right _ (hl _ (.head _)))
  rcases List.mem_cons.mp h with rfl | h
  · exact .head _
  rcases List.mem_append.mp h with h | h
  · exact .tail _ (List.mem_append_left _ h)
  · exact .tail _ (List.mem_append_right _ (hl _ (.tail _ h)))
theorem mvC {q r w j : Addr × Obj} {l1 l : List (Addr × Obj)} (h : q ∈ j :: r :: ((l1 ++ [w]) ++ l)) : q ∈ r :: w :: j :: (l1 ++ l) := by
  simp only [List.mem_cons, List.mem_append, List.not_mem_nil, or_false] at h ⊢
  rcases h with h | h | (h | h) | h <;> simp only [h, true_or, or_true]
theorem mvD {q r w j t : Addr × Obj} {l : List (Addr × Obj)} (h : q ∈ r :: w :: j :: l) : q ∈ w :: t :: j :: r :: l := by
  simp only [List.mem_cons] at h ⊢
  rcases h with h | h | h | h <;> simp only [h, true_or, or_true]
theorem lobs_snoc (ls : List LO) (f : LO) : lobs (ls ++ [f]) = lobs ls ++ [(f.a, listOf f.vs.toArray 0)] := List.map_append
theorem lrefs_snoc (ls : List LO) (f : LO) : lrefs (ls ++ [f]) = lrefs ls ++ [.ref f.a] := List.map_append
theorem lrefs_get {ls : List LO} {k : Nat} {v : Value} (h : (lrefs ls)[k]? = some v) : ∃ f, ls[k]? = some f ∧ v = .ref f.a := by
  rw [lrefs, List.getElem?_map] at h
  obtain ⟨f, hf, e⟩ := Option.map_eq_some_iff.mp h
  exact ⟨f, hf, e.symm⟩
theorem lobs_of {ls : List LO} {f : LO} (h : f ∈ ls) : (f.a, listOf f.vs.toArray 0) ∈ lobs ls := List.mem_map_of_mem h
theorem take_snoc {α : Type} {l : List α} {k : Nat} {x : α} (h : l[k]? = some x) : l.take (k + 1) = l.take k ++ [x] := by
  rw [List.take_add_one, h]; rfl
theorem flat_len {α : Type} {g : Nat → List α} {c : Nat} (h : ∀ i, (g i).length = c) : ∀ k, ((List.range k).flatMap g).length = k * c
  | 0 => (Nat.zero_mul c).symm
  | k + 1 => by rw [List.range_succ, List.flatMap_append, List.length_append, flat_len h k, List.flatMap_singleton, h, Nat.succ_mul]
def fct : Nat → Nat
  | 0 => 1
  | n + 1 => (n + 1) * fct n
theorem perms_count : ∀ (n : Nat) (vs : List Value), (permsV n vs).length = fct n
  | 0, _ => rfl
  | n + 1, _ => flat_len (fun i => by rw [List.length_map]; exact perms_count n _) (n + 1)
theorem perms_mem : ∀ (n : Nat) (vs x : List Value), x ∈ permsV n vs → x.length = n
  | 0, _, x, h => by rw [List.mem_singleton.mp h]; rfl
  | n + 1, vs, x, h => by
    obtain ⟨i, _, h⟩ := List.mem_flatMap.mp h
    obtain ⟨y, hy, rfl⟩ := List.mem_map.mp h
    rw [List.length_cons, perms_mem n _ y hy]
theorem perms_len {n : Nat} {vs : List Value} {ls : List LO} {f : LO} (h : ls.map LO.vs = permsV n vs) (hf : f ∈ ls) : f.vs.length = n :=
  perms_mem n vs _ (h ▸ List.mem_map_of_mem hf)
theorem fct_le {n : Nat} (h : n + 1 ≤ 3) : fct n ≤ 2 := by
  match n, h with
  | 0, _ => decide
  | 1, _ => decide
  | 2, _ => decide
theorem ord_len {n k j : Nat} {v : Value} {ws : List Value} {lt ls ls2 : List LO} {g : Nat → List Value → List Value} {e : Nat → List Value} (hn : n + 1 ≤ 3) (hk : k < 3) (h : lt.map LO.vs = ls.map LO.vs ++ (ls2.take j).map (fun f => v :: f.vs))
    (h1 : ls.map LO.vs = (List.range k).flatMap fun i => (permsV n (e i)).map (g i)) (h2 : ls2.map LO.vs = permsV n ws) : lt.length ≤ 8 := by
  have a := congrArg List.length h
  have b := congrArg List.length h1
  have c := congrArg List.length h2
  rw [List.length_map, List.length_append, List.length_map, List.length_map, List.length_take] at a
  rw [List.length_map, flat_len (c := fct n) (fun i => by rw [List.length_map]; exact perms_count n _)] at b
  rw [List.length_map, perms_count] at c
  have d := fct_le hn
  have q : k * fct n ≤ 2 * 2 := Nat.mul_le_mul (Nat.le_of_lt_succ hk) d
  have := Nat.min_le_right j ls2.length
  omega
theorem ord_step {n k : Nat} {w : Nat → List Value} {v : Nat → Value} {lt ls ls2 : List LO} (h1 : ls.map LO.vs = (List.range k).flatMap fun i => (permsV n (w i)).map (v i :: ·)) (h2 : ls2.map LO.vs = permsV n (w k))
    (h : lt.map LO.vs = ls.map LO.vs ++ (ls2.take (lrefs ls2).length).map (fun f => v k :: f.vs)) : lt.map LO.vs = (List.range (k + 1)).flatMap fun i => (permsV n (w i)).map (v i :: ·) := by
  rw [h, lrefs, List.length_map, List.take_length, List.range_succ, List.flatMap_append, ← h1, List.flatMap_singleton, ← h2, List.map_map]
  rfl
theorem ints0 {vs : List Value} {ns : List Int} (h : IntsAre vs ns) (e : ns.length = 0) : vs = [] ∧ ns = [] := by
  cases h with
  | nil => exact ⟨rfl, rfl⟩
  | cons _ _ _ => cases e
theorem get_getD {vs : List Value} {k : Nat} (h : k < vs.length) : vs[k]? = some (vs.getD k .none) := by
  rw [List.getD_eq_getElem?_getD, List.getElem?_eq_getElem h]; rfl
section
variable {prog : Program} {w : World} {A : Around} {E : Value → Shared → Prop} {s : Shared} {h₀ h' : Heap} {tk : Nat} {L D D2 : Addr} {m : Str → Option Value} {news : List (Addr × Obj)} {value slice : PySem.Expr} {vs vs2 : List Value} {n n2 k : Nat} {t : Tok} {Q : Value → Shared → Prop}
theorem c_upto (F : Fr h₀ L h' m) (N : News h₀ L h' news) (hm : (D, listOf vs.toArray n) ∈ news) (hz : vs.length ≤ 3)
    (h : ∀ D' h'', Fr h₀ L h'' m → News h₀ L h'' ((D', listOf (vs.take k).toArray 0) :: news) → (∀ q ∈ news, q.1 < D') → Q (.ref D') { s with heap := h'', toks := tk })
    (hs : subscripted slice false (.ref D) (.ref h'.objs.size) = operate [.ref h'.objs.size, .ref D] (getItem (.ref D) (.ref h'.objs.size)) := by with_unfolding_all rfl) (ht : ∀ r, letTemporaryGo value (.ref D) r = pure () := by kmk_pure) :
    wpAny (model prog w) A (subscriptTail value slice (.ref D) (.ref h'.objs.size)) Q E { s with heap := h'.push { cls := .type "slice", data := .fields #[.none, .int (k : Int) t, .none] }, toks := tk } :=
  kmk_slice_lit (s := { s with heap := h', toks := tk }) F N (PySem.IsL.isList (n := n) (N _ hm).1) IsPart.none (IsPart.int _ _) (by rw [slicePick_upto']) h hs ht (by rw [List.size_toArray, sizeLine_eq]; omega)
theorem c_from (F : Fr h₀ L h' m) (N : News h₀ L h' news) (hm : (D, listOf vs.toArray n) ∈ news) (hz : vs.length ≤ 3)
    (h : ∀ D' h'', Fr h₀ L h'' m → News h₀ L h'' ((D', listOf (vs.drop (k + 1)).toArray 0) :: news) → (∀ q ∈ news, q.1 < D') → Q (.ref D') { s with heap := h'', toks := tk })
    (hs : subscripted slice false (.ref D) (.ref h'.objs.size) = operate [.ref h'.objs.size, .ref D] (getItem (.ref D) (.ref h'.objs.size)) := by with_unfolding_all rfl) (ht : ∀ r, letTemporaryGo value (.ref D) r = pure () := by kmk_pure) :
    wpAny (model prog w) A (subscriptTail value slice (.ref D) (.ref h'.objs.size)) Q E { s with heap := h'.push { cls := .type "slice", data := .fields #[.int ((k : Int) + 1) t, .none, .none] }, toks := tk } :=
  kmk_slice_lit (s := { s with heap := h', toks := tk }) F N (PySem.IsL.isList (n := n) (N _ hm).1) (IsPart.int _ _) IsPart.none (by rw [show ((k : Int) + 1) = ((k + 1 : Nat) : Int) from rfl, slicePick_from']) h hs ht (by rw [List.size_toArray, sizeLine_eq]; omega)
theorem c_cat (F : Fr h₀ L s.heap m) (N : News h₀ L s.heap news) (hm : (D, listOf vs.toArray n) ∈ news) (hm2 : (D2, listOf vs2.toArray n2) ∈ news) (hz : vs.length + vs2.length ≤ 9)
    (h : ∀ D' h'', Fr h₀ L h'' m → News h₀ L h'' ((D', listOf (vs ++ vs2).toArray 0) :: news) → (∀ q ∈ news, q.1 < D') → Q (.ref D') { s with heap := h'' }) :
    wpAny (model prog w) A (binaryOp .Add (.ref D) (.ref D2)) Q E s :=
  kmk_add_lit F N (PySem.IsL.isList (n := n) (N _ hm).1) (PySem.IsL.isList (n := n2) (N _ hm2).1) rfl h (by rw [sizeLine_eq]; exact Nat.le_trans hz (by decide))
end
end Mine
end
section
open PySem PySem.W PyProof.Rows PySem.Spec PySem.Calls
set_option maxRecDepth 100000
set_option maxHeartbeats 8000000
namespace Mine
local macro_rules | `(tactic| walk_at "exec While Compare cons nil") => `(tactic| k_extra "my while")
local macro_rules | `(tactic| walk_at "subscriptTail Name Name ref int") => `(tactic| k_extra "my sub")
local macro_rules | `(tactic| walk_at "subscriptTail Name Constant ref int") => `(tactic| k_extra "my sub")
local macro_rules | `(tactic| walk_at "compareOp Lt ref ref") => `(tactic| k_extra "my lt")
local macro_rules | `(tactic| walk_at "setItem ref int ref") => `(tactic| k_extra "my set")
local macro_rules | `(tactic| walk_at "binaryOp RShift int int") => `(tactic| k_extra "my rsh")
local macro_rules | `(tactic| walk_at "binaryOp Add int int") => `(tactic| k_extra "my add")
local macro_rules | `(tactic| walk_at "binaryOp Mult int int") => `(tactic| k_extra "my mul")
local macro_rules | `(tactic| walk_at "call builtin:len") => `(tactic| k_extra "my len")
local macro_rules | `(tactic| walk_at "call ref") => `(tactic| k_extra "my call")
local macro_rules | `(tactic| walk_at "ite") => `(tactic| k_extra "my ite")
local macro_rules | `(tactic| walk_at "eval Name") => `(tactic| k_extra "my name")
local macro_rules | `(tactic| walk_at "exec For Name Call cons nil") => `(tactic| k_extra "my for")
local macro_rules | `(tactic| walk_at "call type:reversed") => `(tactic| k_extra "my rev")
local macro_rules | `(tactic| walk_at "pyIter ref") => `(tactic| k_extra "my iter")
local macro_rules | `(tactic| walk_at "Mine.FRest") => `(tactic| k_extra "my rest")
local macro_rules | `(tactic| walk_at "FRest") => `(tactic| k_extra "my rest")
local macro_rules | `(tactic| walk_at "FPost") => `(tactic| k_extra "my post")
local macro_rules | `(tactic| walk_at "FTurn") => `(tactic| k_extra "my fturn")
local macro_rules | `(tactic| walk_at "truthy ref") => `(tactic| k_extra "my truthy")
local macro_rules | `(tactic| walk_at "subscriptTail Subscript Name Constant Constant ref int") => `(tactic| k_extra "my fst")
local macro_rules | `(tactic| walk_at "assign Tuple") => `(tactic| k_extra "my unpack")
local macro_rules | `(tactic| walk_at "call builtin:iter") => `(tactic| k_extra "my biter")
local macro_rules | `(tactic| walk_at "call type:zip") => `(tactic| k_extra "my zip")
local macro_rules | `(tactic| walk_at "exec Assign cons ListComp") => `(tactic| k_extra "my comp")
local macro_rules | `(tactic| walk_at "eval ListComp") => `(tactic| k_extra "my lcomp")
local macro_rules | `(tactic| walk_at "exec For Name Name cons nil") => `(tactic| k_extra "my for")
local macro_rules | `(tactic| walk_at "call builtin:list.sort") => `(tactic| k_extra "my sort")
local macro_rules | `(tactic| walk_at "callWith builtin:list.sort") => `(tactic| k_extra "my sortkw")
local macro_rules | `(tactic| walk_at "callWith") => `(tactic| k_extra "my sortkw")
local macro_rules | `(tactic| walk_at "exec While Name cons nil") => `(tactic| k_extra "my while")
local macro_rules | `(tactic| walk_at "exec Try") => `(tactic| k_extra "my try")
local macro_rules | `(tactic| walk_at "call builtin:list.pop") => `(tactic| k_extra "my pop")
local macro_rules | `(tactic| walk_at "call builtin:list.remove") => `(tactic| k_extra "my remove")
local macro_rules | `(tactic| walk_at "call builtin:list.append") => `(tactic| k_extra "my append")
local macro_rules | `(tactic| walk_at "CompSrc") => `(tactic| k_extra "my src")
local macro_rules | `(tactic| walk_at "CompSrcT") => `(tactic| k_extra "my src")
local macro_rules | `(tactic| walk_at "storeName") => `(tactic| k_extra "my store")
local macro_rules | `(tactic| walk_at "call builtin:list.count") => `(tactic| k_extra "my count")
local macro_rules | `(tactic| walk_at "compareOp NotEq ref ref") => `(tactic| k_extra "my ne")
local macro_rules | `(tactic| walk_at "compareOp Eq ref ref") => `(tactic| k_extra "my eq")
local macro_rules | `(tactic| walk_at "subscriptTail Name Slice ref ref") => `(tactic| k_extra "my slice")
local macro_rules | `(tactic| walk_at "binaryOp Add ref ref") => `(tactic| k_extra "my cat")
local macro_rules | `(tactic| walk_at "execs cons") => `(tactic| k_extra "my seq")
local macro_rules | `(tactic| walk_at "Post next") => `(tactic| (first | (with_reducible refine post_to (by assumption) ?_) | (with_reducible refine post_next (by assumption) ?_)))
local macro_rules | `(tactic| walk_at "Post ret") => `(tactic| (first | (with_reducible refine post_to (by assumption) ?_) | (with_reducible refine post_ret (by assumption) ?_)))
local macro_rules | `(tactic| walk_at "Post brk") => `(tactic| (first | (with_reducible refine post_to (by assumption) ?_) | (with_reducible refine post_brk (by assumption) ?_)))
local macro_rules | `(tactic| walk_at "Post cont") => `(tactic| (first | (with_reducible refine post_to (by assumption) ?_) | (with_reducible refine post_cont (by assumption) ?_)))
local macro_rules | `(tactic| walk_at "getMethod ref") => `(tactic| k_extra "my getm")
local macro_rules | `(tactic| walk_at "PostV ref") => `(tactic| k_extra "my postv")
local macro_rules | `(tactic| walk_at "PostV int") => `(tactic| k_extra "my postv")
local macro_rules | `(tactic| walk_at "PostV") => `(tactic| k_extra "my postv")
local macro_rules | `(tactic| walk_at "KsfEnd") => `(tactic| k_extra "my ksf")
local macro_rules | `(tactic| walk_at "KswEnd") => `(tactic| k_extra "my turn")
theorem siftdown {w : World} {p : Program} {loose : List Str} {mean : ExcName → Option Value} {mg mb : Str → Option Value}
   {dp un : Nat} {gd : Option (List Code)} {cn : Str} {cs : Scope} {a : Addr} {ccd : Value} {cl : List (Str × Addr)} {outer : List Env} {A₀ : Around} {base h₀ : Heap} {L : Addr} {m : Str → Option Value} {rest : List (Addr × Obj)} {s : Shared}
    {Q E : Value → Shared → Prop} {hp : Addr} {xs : List C} {n : Nat} {sp ps : Nat} {tsp tps : Tok}
    (B : Below A₀ base outer h₀) (F : Fr h₀ L s.heap m) (X : (hd.heap_39 w.params).In h₀) (T : Top p loose mean mg mb h₀) (hk : cs.kind = .function) (N : News h₀ L s.heap ((hp, listOf (vals xs).toArray n) :: rest))
    (hdp : dp + 1 < recursionLimit) (hun : un + 8 < cLine) (hps : ps < xs.length) (hlen : xs.length < 100) (hD : ∀ q ∈ rest, q.1 ≠ hp) (hH : Held rest xs)
    (hret : ∀ r h' tk', SD ltMin sp (cat xs ps) xs ps r → Fr h₀ L h' m → News h₀ L h' ((hp, listOf (vals r).toArray n) :: rest) → Q .none { s with heap := h', toks := tk' }) :
    wpAny (MM w) (ktrTop dp un gd cn cs L a ccd cl outer) (call (.ref 49) [.ref hp, .int sp tsp, .int ps tps]) Q E s := by
  k_with_none
  k_with "my sub" => (k_dflt refine' c_subN (by k_asm) (.head _) (by omega) (by omega) ?_)
  k_with "my ite" => (refine split_dec ?_ ?_ <;> intro _)
  k_with "my rsh" => (k_dflt refine' c_rsh (by omega) ?_)
  k_with "my lt" => (k_dflt refine' c_lt (by k_asm) (by first | assumption | exact HeldC.more (by assumption) _ | exact HeldC.more (Held.at (by assumption) (by omega)) _) (by first | assumption | exact HeldC.more (by assumption) _ | exact HeldC.more (Held.at (by assumption) (by omega)) _) (show un + 3 < cLine by omega) ?_)
  k_with "my set" => ((k_dflt refine' c_setN (by k_asm) (by k_asm) hD (by omega) (by omega) ?_); intro h' F' N')
  k_with "my while" => (
    (k_dflt refine' ksw_whileR (σ := List C × Nat × Tok) (fun c => (hp, listOf (vals c.1).toArray n) :: rest) (fun c => [(Str.ofString "pos", .int (c.2.1 : Nat) c.2.2)]) (fun _ => True) [Str.ofString "parentpos", Str.ofString "parent"] (fun c => c.1.length = xs.length ∧ c.2.1 < xs.length ∧ Held rest c.1 ∧ ∀ r, SD ltMin sp (cat xs ps) c.1 c.2.1 r → SD ltMin sp (cat xs ps) xs ps r) (fun c => c.2.1) (xs, ps, tps) ?kF ?kN trivial ?kk ?kp ?kt ?kE)
    (case kF => k_asm)
    (case kN => k_asm)
    (case kk => kst_all)
    (case kp => exact ⟨rfl, hps, hH, fun _ h => h⟩)
    (case kE => passes_own)
    intro c u hx tkx KR kR kFacts kInv kFr kNews
    obtain ⟨ys, q, tq⟩ := c
    obtain ⟨hl', hq', hH', hS'⟩ := kInv
    dsimp only [kstB] at hl' hq' hH' hS' kFr kNews)
  k_with "my turn" => (refine ksw_end (ys.set q (cat ys ((q - 1) / 2)), (q - 1) / 2, _) (by assumption) (by assumption) (fun _ h => h) trivial (by kst_all) (by ksw_same) ⟨by rw [List.length_set]; exact hl', by show (q - 1) / 2 < xs.length; omega, Held.set hH' (Held.at hH' (by omega)) _, fun r hr => hS' r (SD.up (by omega) (by simp only [ltMin, decide_eq_true_eq]; assumption) hr)⟩ (by show (q - 1) / 2 < q; omega))
  have hC := Held.at hH hps
  refine wpAny_call ?_
  k_dflt (refine' code_def (binds := [(Str.ofString "heap", .ref hp), (Str.ofString "startpos", .int sp tsp), (Str.ofString "pos", .int ps tps)]) B F X N T rfl rfl hk ?k6 ?k7 ?k8 ?k9 ?kB ?_ ?c2 ?c3 ?c4 ?c5; (case k6 => k_is); (case k7 => k_is); (case k8 => (show dp < recursionLimit; omega)); (case k9 => exact BindsTo.of_eq rfl); (case c5 => decide); (case kB => exact locs rfl); (case c2 => exact rfl); (case c3 => exact rfl); (case c4 => exact rfl); k_whole)
  intro g' L' h' FG' F' N' B' X' T'
  refine abs_QE (by passes_own) ?_
  intro KQ KE kTo kPE
  k_steps
  · exact hret _ _ _ (hS' _ (SD.brk (by omega) (by simp only [ltMin, decide_eq_false_iff_not]; assumption))) (by assumption) (by assumption)
  · exact hret _ _ _ (hS' _ (SD.stop (by omega))) (by assumption) (by assumption)

theorem siftup {w : World} {p : Program} {loose : List Str} {mean : ExcName → Option Value} {mg mb : Str → Option Value}
   {dp un : Nat} {gd : Option (List Code)} {cn : Str} {cs : Scope} {a : Addr} {ccd : Value} {cl : List (Str × Addr)} {outer : List Env} {A₀ : Around} {base h₀ : Heap} {L : Addr} {m : Str → Option Value} {rest : List (Addr × Obj)} {s : Shared}
    {Q E : Value → Shared → Prop} {hp : Addr} {xs : List C} {n : Nat} {ps : Nat} {tps : Tok}
    (B : Below A₀ base outer h₀) (F : Fr h₀ L s.heap m) (X : (hd.heap_39 w.params).In h₀) (T : Top p loose mean mg mb h₀) (hk : cs.kind = .function) (N : News h₀ L s.heap ((hp, listOf (vals xs).toArray n) :: rest))
    (hdp : dp + 2 < recursionLimit) (hun : un + 16 < cLine) (hps : ps < xs.length) (hlen : xs.length < 100) (hD : ∀ q ∈ rest, q.1 ≠ hp) (hH : Held rest xs)
    (hret : ∀ r h' tk', Sift ltMin xs ps r → Fr h₀ L h' m → News h₀ L h' ((hp, listOf (vals r).toArray n) :: rest) → Q .none { s with heap := h', toks := tk' }) :
    wpAny (MM w) (ktrTop dp un gd cn cs L a ccd cl outer) (call (.ref 56) [.ref hp, .int ps tps]) Q E s := by
  k_with_none
  k_with "my sub" => (k_dflt refine' c_subN (by k_asm) (.head _) (by omega) (by omega) ?_)
  k_with "my ite" => (refine split_dec ?_ ?_ <;> intro _)
  k_with "my add" => (k_dflt refine' c_add1 ?_)
  k_with "my mul" => (k_dflt refine' c_mul2 ?_)
  k_with "my len" => (k_dflt refine' c_len (by k_asm) (.head _) (by omega) ?_)
  k_with "my lt" => (k_dflt refine' c_lt (by k_asm) (by first | assumption | exact HeldC.more (by assumption) _ | exact HeldC.more (Held.at (by assumption) (by omega)) _) (by first | assumption | exact HeldC.more (by assumption) _ | exact HeldC.more (Held.at (by assumption) (by omega)) _) (show un + 3 < cLine by omega) ?_)
  k_with "my set" => ((k_dflt refine' c_setN (by k_asm) (by k_asm) hD (by omega) (by omega) ?_); intro h' F' N')
  k_with "my while" => (
    (k_dflt refine' ksw_whileR (σ := List C × Nat × Tok × Tok) (fun c => (hp, listOf (vals c.1).toArray n) :: rest) (fun c => [(Str.ofString "pos", .int (c.2.1 : Nat) c.2.2.1), (Str.ofString "childpos", .int ((2 * c.2.1 + 1 : Nat) : Int) c.2.2.2)]) (fun _ => True) [Str.ofString "rightpos"] (fun c => c.1.length = xs.length ∧ c.2.1 < xs.length ∧ Held rest c.1 ∧ ∀ r q, SU ltMin xs.length c.1 c.2.1 r q → SU ltMin xs.length xs ps r q) (fun c => xs.length - c.2.1) (xs, ps, tps, _) ?kF ?kN trivial ?kk ?kp ?kt ?kE)
    (case kF => k_asm)
    (case kN => k_asm)
    (case kk => kst_all)
    (case kp => exact ⟨rfl, hps, hH, fun _ _ h => h⟩)
    (case kE => passes_own)
    intro c u hx tkx KR kR kFacts kInv kFr kNews
    obtain ⟨ys, q, tq, tc⟩ := c
    obtain ⟨hl', hq', hH', hS'⟩ := kInv
    dsimp only [kstB] at hl' hq' hH' hS' kFr kNews)
  k_with "my turn" => (first
    | (refine ksw_end (ys.set q (cat ys (2 * q + 1 + 1)), 2 * q + 1 + 1, _, _) (by assumption) (by assumption) (fun _ h => h) trivial (by kst_all) (by ksw_same) ⟨by rw [List.length_set]; exact hl', by show 2 * q + 1 + 1 < xs.length; omega, Held.set hH' (Held.at hH' (by omega)) _, fun r q' hr => hS' r q' (SU.go' (by omega) (pick_r (by omega) (by simp only [ltMin, decide_eq_false_iff_not]; assumption)) hr)⟩ (by show xs.length - (2 * q + 1 + 1) < xs.length - q; omega))
    | (refine ksw_end (ys.set q (cat ys (2 * q + 1)), 2 * q + 1, _, _) (by assumption) (by assumption) (fun _ h => h) trivial (by kst_all) (by ksw_same) ⟨by rw [List.length_set]; exact hl', by show 2 * q + 1 < xs.length; omega, Held.set hH' (Held.at hH' (by omega)) _, fun r q' hr => hS' r q' (SU.go' (by omega) (by first | exact pick_o (by omega) | exact pick_l (by simp only [ltMin, decide_eq_true_eq]; assumption)) hr)⟩ (by show xs.length - (2 * q + 1) < xs.length - q; omega)))
  k_with "my call" => (
    (k_dflt refine' siftdown (dp := dp + 1) (un := un + 3) (xs := ys.set q (cat xs ps)) (by k_asm) (by k_asm) (by k_asm) (by k_asm) rfl (by k_asm) (by omega) (by omega) (by rw [List.length_set]; omega) (by rw [List.length_set]; omega) hD (Held.set hH' hC _) ?_)
    intro r' h' tk' hr' F' N')
  have hC := Held.at hH hps
  refine wpAny_call ?_
  k_dflt (refine' code_def (binds := [(Str.ofString "heap", .ref hp), (Str.ofString "pos", .int ps tps)]) B F X N T rfl rfl hk ?k6 ?k7 ?k8 ?k9 ?kB ?_ ?c2 ?c3 ?c4 ?c5; (case k6 => k_is); (case k7 => k_is); (case k8 => (show dp < recursionLimit; omega)); (case k9 => exact BindsTo.of_eq rfl); (case c5 => decide); (case kB => exact locs rfl); (case c2 => exact rfl); (case c3 => exact rfl); (case c4 => exact rfl); k_whole)
  intro g' L' h' FG' F' N' B' X' T'
  refine abs_QE (by passes_own) ?_
  intro KQ KE kTo kPE
  k_steps
  exact hret _ _ _ ⟨ys, q, hS' _ _ (SU.stop (by omega)), by rw [cat_set (by omega)] at hr'; exact hr'⟩ (by assumption) (by assumption)

theorem heapreplace {w : World} {p : Program} {loose : List Str} {mean : ExcName → Option Value} {mg mb : Str → Option Value}
   {dp un : Nat} {gd : Option (List Code)} {cn : Str} {cs : Scope} {a : Addr} {ccd : Value} {cl : List (Str × Addr)} {outer : List Env} {A₀ : Around} {base h₀ : Heap} {L : Addr} {m : Str → Option Value} {rest : List (Addr × Obj)} {s : Shared}
    {Q E : Value → Shared → Prop} {hp : Addr} {xs : List C} {n : Nat} {c : C}
    (B : Below A₀ base outer h₀) (F : Fr h₀ L s.heap m) (X : (hd.heap_39 w.params).In h₀) (T : Top p loose mean mg mb h₀) (hk : cs.kind = .function) (N : News h₀ L s.heap ((hp, listOf (vals xs).toArray n) :: rest))
    (hdp : dp + 3 < recursionLimit) (hun : un + 24 < cLine) (hps : 0 < xs.length) (hlen : xs.length < 100) (hD : ∀ q ∈ rest, q.1 ≠ hp) (hH : Held rest xs) (hC : HeldC rest c)
    (hret : ∀ r h' tk', Sift ltMin (xs.set 0 c) 0 r → Fr h₀ L h' m → News h₀ L h' ((hp, listOf (vals r).toArray n) :: rest) → Q (.ref (cat xs 0).a) { s with heap := h', toks := tk' }) :
    wpAny (MM w) (ktrTop dp un gd cn cs L a ccd cl outer) (call (.ref 21) [.ref hp, .ref c.a]) Q E s := by
  k_with_none
  k_with "my sub" => (k_dflt refine' c_subN (j := 0) (by k_asm) (.head _) (by omega) (by omega) ?_)
  k_with "my set" => ((k_dflt refine' c_setN (j := 0) (by k_asm) (by k_asm) hD (by omega) (by omega) ?_); intro h' F' N')
  k_with "my call" => (
    (k_dflt refine' siftup (dp := dp + 1) (un := un + 3) (xs := xs.set 0 c) (ps := 0) (by k_asm) (by k_asm) (by k_asm) (by k_asm) rfl (by k_asm) (by omega) (by omega) (by rw [List.length_set]; omega) (by rw [List.length_set]; omega) hD (Held.set hH hC _) ?_)
    intro r' h' tk' hr' F' N')
  refine wpAny_call ?_
  k_dflt (refine' code_def (binds := [(Str.ofString "heap", .ref hp), (Str.ofString "item", .ref c.a)]) B F X N T rfl rfl hk ?k6 ?k7 ?k8 ?k9 ?kB ?_ ?c2 ?c3 ?c4 ?c5; (case k6 => k_is); (case k7 => k_is); (case k8 => (show dp < recursionLimit; omega)); (case k9 => exact BindsTo.of_eq rfl); (case c5 => decide); (case kB => exact locs rfl); (case c2 => exact rfl); (case c3 => exact rfl); (case c4 => exact rfl); k_whole)
  intro g' L' h' FG' F' N' B' X' T'
  refine abs_QE (by passes_own) ?_
  intro KQ KE kTo kPE
  k_steps
  exact hret _ _ _ hr' (by assumption) (by assumption)

theorem heapify {w : World} {p : Program} {loose : List Str} {mean : ExcName → Option Value} {mg mb : Str → Option Value}
   {dp un : Nat} {gd : Option (List Code)} {cn : Str} {cs : Scope} {a : Addr} {ccd : Value} {cl : List (Str × Addr)} {outer : List Env} {A₀ : Around} {base h₀ : Heap} {L : Addr} {m : Str → Option Value} {rest : List (Addr × Obj)} {s : Shared}
    {Q E : Value → Shared → Prop} {hp : Addr} {xs : List C} {n : Nat}
    (B : Below A₀ base outer h₀) (F : Fr h₀ L s.heap m) (X : (hd.heap_39 w.params).In h₀) (T : Top p loose mean mg mb h₀) (hk : cs.kind = .function) (N : News h₀ L s.heap ((hp, listOf (vals xs).toArray n) :: rest))
    (hdp : dp + 3 < recursionLimit) (hun : un + 24 < cLine) (hlen : xs.length = 6) (hD : ∀ q ∈ rest, q.1 ≠ hp) (hH : Held rest xs)
    (hret : ∀ r1 r2 r h' tk', Sift ltMin xs 2 r1 → Sift ltMin r1 1 r2 → Sift ltMin r2 0 r → Fr h₀ L h' m → News h₀ L h' ((hp, listOf (vals r).toArray n) :: rest) → Q .none { s with heap := h', toks := tk' }) :
    wpAny (MM w) (ktrTop dp un gd cn cs L a ccd cl outer) (call (.ref 28) [.ref hp]) Q E s := by
  k_with_none
  k_with "my len" => (k_dflt refine' c_len6 (by k_asm) (.head _) hlen ?_)
  k_with "my for" => (k_dflt refine' for_start ?_)
  k_with "my rev" => ((k_dflt refine' call_rev_range (by k_asm) (by k_asm) (by assumption) ?_); intro h' I F' N' hI)
  k_with "my iter" => (k_dflt refine' wpAny_pyIter_rangeiter (News.get (by k_asm) (.head _)) ?_)
  refine wpAny_call ?_
  k_dflt (refine' code_def (binds := [(Str.ofString "x", .ref hp)]) B F X N T rfl rfl hk ?k6 ?k7 ?k8 ?k9 ?kB ?_ ?c2 ?c3 ?c4 ?c5; (case k6 => k_is); (case k7 => k_is); (case k8 => (show dp < recursionLimit; omega)); (case k9 => exact BindsTo.of_eq rfl); (case c5 => decide); (case kB => exact locs rfl); (case c2 => exact rfl); (case c3 => exact rfl); (case c4 => exact rfl); k_whole)
  intro g' L' h' FG' F' N' B' X' T'
  refine abs_QE (by passes_own) ?_
  intro KQ KE kTo kPE
  k_steps
  have hhp : hp < I := hI _ (.head _)
  have hDI : ∀ o, ∀ p ∈ (hp, (o : Obj)) :: rest, p.1 ≠ I := fun o p hp => (List.mem_cons.mp hp).elim (fun e => by rw [e]; exact Nat.ne_of_lt hhp) fun h => Nat.ne_of_lt (hI p (.tail _ h))
  have hDh : ∀ {o : Obj}, ∀ p ∈ (I, o) :: rest, p.1 ≠ hp := fun {o} p hp => (List.mem_cons.mp hp).elim (fun e => by rw [e]; exact Nat.ne_of_gt hhp) fun h => hD p h
  refine for_turn (by passes_own) (fun _ => rfl) ?_
  refine next_range 1 2 (by k_asm) (by first | k_asm | exact news_swap (by k_asm)) (hDI _) (by decide) (by decide) (by decide) ?_
  intro h1 F1 N1
  (show wpAny _ _ (assign _ _ _) _ _ _)
  k_steps
  k_dflt (refine' siftup (dp := dp + 1) (un := un + 3) (ps := 2) (xs := xs) (rest := (I, rgIt 1 2 (-1)) :: rest) (by k_asm) (by k_asm) (by k_asm) (by k_asm) rfl (news_swap (by k_asm)) (by omega) (by omega) (by omega) (by omega) hDh (fun c hc => HeldC.more (hH c hc) _) ?_)
  intro r1 h1' tk1 hr1 F1' N1'
  have hl1 := hr1.len
  have hH1 : Held rest r1 := hr1.held (by omega) hH
  k_steps
  refine for_turn (by passes_own) (fun _ => rfl) ?_
  refine next_range 0 1 (by k_asm) (by first | k_asm | exact news_swap (by k_asm)) (hDI _) (by decide) (by decide) (by decide) ?_
  intro h2 F2 N2
  (show wpAny _ _ (assign _ _ _) _ _ _)
  k_steps
  k_dflt (refine' siftup (dp := dp + 1) (un := un + 3) (ps := 1) (xs := r1) (rest := (I, rgIt 0 1 (-1)) :: rest) (by k_asm) (by k_asm) (by k_asm) (by k_asm) rfl (news_swap (by k_asm)) (by omega) (by omega) (by omega) (by omega) hDh (fun c hc => HeldC.more (hH1 c hc) _) ?_)
  intro r2 h2' tk2 hr2 F2' N2'
  have hl2 := hr2.len
  have hH2 : Held rest r2 := hr2.held (by omega) hH1
  k_steps
  refine for_turn (by passes_own) (fun _ => rfl) ?_
  refine next_range (-1) 0 (by k_asm) (by first | k_asm | exact news_swap (by k_asm)) (hDI _) (by decide) (by decide) (by decide) ?_
  intro h3 F3 N3
  (show wpAny _ _ (assign _ _ _) _ _ _)
  k_steps
  k_dflt (refine' siftup (dp := dp + 1) (un := un + 3) (ps := 0) (xs := r2) (rest := (I, rgIt (-1) 0 (-1)) :: rest) (by k_asm) (by k_asm) (by k_asm) (by k_asm) rfl (news_swap (by k_asm)) (by omega) (by omega) (by omega) (by omega) hDh (fun c hc => HeldC.more (hH2 c hc) _) ?_)
  intro r3 h3' tk3 hr3 F3' N3'
  have hl3 := hr3.len
  have hH3 : Held rest r3 := hr3.held (by omega) hH2
  k_steps
  refine for_turn (by passes_own) (fun _ => rfl) ?_
  refine next_range_end (I := I) (x := -1) (left := 0) (step := -1) (rest := (hp, listOf (vals r3).toArray n) :: rest) rfl (by k_asm) (news_swap (by k_asm)) (hDI _) (by decide) ?_
  intro h4 F4 N4
  dsimp only [FTurn]
  k_steps
  exact hret _ _ _ _ _ hr1 hr2 hr3 (by assumption) (by assumption)

theorem siftdown_max {w : World} {p : Program} {loose : List Str} {mean : ExcName → Option Value} {mg mb : Str → Option Value}
   {dp un : Nat} {gd : Option (List Code)} {cn : Str} {cs : Scope} {a : Addr} {ccd : Value} {cl : List (Str × Addr)} {outer : List Env} {A₀ : Around} {base h₀ : Heap} {L : Addr} {m : Str → Option Value} {rest : List (Addr × Obj)} {s : Shared}
    {Q E : Value → Shared → Prop} {hp : Addr} {xs : List C} {n : Nat} {sp ps : Nat} {tsp tps : Tok}
    (B : Below A₀ base outer h₀) (F : Fr h₀ L s.heap m) (X : (hd.heap_39 w.params).In h₀) (T : Top p loose mean mg mb h₀) (hk : cs.kind = .function) (N : News h₀ L s.heap ((hp, listOf (vals xs).toArray n) :: rest))
    (hdp : dp + 1 < recursionLimit) (hun : un + 8 < cLine) (hps : ps < xs.length) (hlen : xs.length < 100) (hD : ∀ q ∈ rest, q.1 ≠ hp) (hH : Held rest xs)
    (hret : ∀ r h' tk', SD ltMax sp (cat xs ps) xs ps r → Fr h₀ L h' m → News h₀ L h' ((hp, listOf (vals r).toArray n) :: rest) → Q .none { s with heap := h', toks := tk' }) :
    wpAny (MM w) (ktrTop dp un gd cn cs L a ccd cl outer) (call (.ref 63) [.ref hp, .int sp tsp, .int ps tps]) Q E s := by
  k_with_none
  k_with "my sub" => (k_dflt refine' c_subN (by k_asm) (.head _) (by omega) (by omega) ?_)
  k_with "my ite" => (refine split_dec ?_ ?_ <;> intro _)
  k_with "my rsh" => (k_dflt refine' c_rsh (by omega) ?_)
  k_with "my lt" => (k_dflt refine' c_lt (by k_asm) (by first | assumption | exact HeldC.more (by assumption) _ | exact HeldC.more (Held.at (by assumption) (by omega)) _) (by first | assumption | exact HeldC.more (by assumption) _ | exact HeldC.more (Held.at (by assumption) (by omega)) _) (show un + 3 < cLine by omega) ?_)
  k_with "my set" => ((k_dflt refine' c_setN (by k_asm) (by k_asm) hD (by omega) (by omega) ?_); intro h' F' N')
  k_with "my while" => (
    (k_dflt refine' ksw_whileR (σ := List C × Nat × Tok) (fun c => (hp, listOf (vals c.1).toArray n) :: rest) (fun c => [(Str.ofString "pos", .int (c.2.1 : Nat) c.2.2)]) (fun _ => True) [Str.ofString "parentpos", Str.ofString "parent"] (fun c => c.1.length = xs.length ∧ c.2.1 < xs.length ∧ Held rest c.1 ∧ ∀ r, SD ltMax sp (cat xs ps) c.1 c.2.1 r → SD ltMax sp (cat xs ps) xs ps r) (fun c => c.2.1) (xs, ps, tps) ?kF ?kN trivial ?kk ?kp ?kt ?kE)
    (case kF => k_asm)
    (case kN => k_asm)
    (case kk => kst_all)
    (case kp => exact ⟨rfl, hps, hH, fun _ h => h⟩)
    (case kE => passes_own)
    intro c u hx tkx KR kR kFacts kInv kFr kNews
    obtain ⟨ys, q, tq⟩ := c
    obtain ⟨hl', hq', hH', hS'⟩ := kInv
    dsimp only [kstB] at hl' hq' hH' hS' kFr kNews)
  k_with "my turn" => (refine ksw_end (ys.set q (cat ys ((q - 1) / 2)), (q - 1) / 2, _) (by assumption) (by assumption) (fun _ h => h) trivial (by kst_all) (by ksw_same) ⟨by rw [List.length_set]; exact hl', by show (q - 1) / 2 < xs.length; omega, Held.set hH' (Held.at hH' (by omega)) _, fun r hr => hS' r (SD.up (by omega) (by simp only [ltMax, decide_eq_true_eq]; assumption) hr)⟩ (by show (q - 1) / 2 < q; omega))
  have hC := Held.at hH hps
  refine wpAny_call ?_
  k_dflt (refine' code_def (binds := [(Str.ofString "heap", .ref hp), (Str.ofString "startpos", .int sp tsp), (Str.ofString "pos", .int ps tps)]) B F X N T rfl rfl hk ?k6 ?k7 ?k8 ?k9 ?kB ?_ ?c2 ?c3 ?c4 ?c5; (case k6 => k_is); (case k7 => k_is); (case k8 => (show dp < recursionLimit; omega)); (case k9 => exact BindsTo.of_eq rfl); (case c5 => decide); (case kB => exact locs rfl); (case c2 => exact rfl); (case c3 => exact rfl); (case c4 => exact rfl); k_whole)
  intro g' L' h' FG' F' N' B' X' T'
  refine abs_QE (by passes_own) ?_
  intro KQ KE kTo kPE
  k_steps
  · exact hret _ _ _ (hS' _ (SD.brk (by omega) (by simp only [ltMax, decide_eq_false_iff_not]; assumption))) (by assumption) (by assumption)
  · exact hret _ _ _ (hS' _ (SD.stop (by omega))) (by assumption) (by assumption)

theorem siftup_max {w : World} {p : Program} {loose : List Str} {mean : ExcName → Option Value} {mg mb : Str → Option Value}
   {dp un : Nat} {gd : Option (List Code)} {cn : Str} {cs : Scope} {a : Addr} {ccd : Value} {cl : List (Str × Addr)} {outer : List Env} {A₀ : Around} {base h₀ : Heap} {L : Addr} {m : Str → Option Value} {rest : List (Addr × Obj)} {s : Shared}
    {Q E : Value → Shared → Prop} {hp : Addr} {xs : List C} {n : Nat} {ps : Nat} {tps : Tok}
    (B : Below A₀ base outer h₀) (F : Fr h₀ L s.heap m) (X : (hd.heap_39 w.params).In h₀) (T : Top p loose mean mg mb h₀) (hk : cs.kind = .function) (N : News h₀ L s.heap ((hp, listOf (vals xs).toArray n) :: rest))
    (hdp : dp + 2 < recursionLimit) (hun : un + 16 < cLine) (hps : ps < xs.length) (hlen : xs.length < 100) (hD : ∀ q ∈ rest, q.1 ≠ hp) (hH : Held rest xs)
    (hret : ∀ r h' tk', Sift ltMax xs ps r → Fr h₀ L h' m → News h₀ L h' ((hp, listOf (vals r).toArray n) :: rest) → Q .none { s with heap := h', toks := tk' }) :
    wpAny (MM w) (ktrTop dp un gd cn cs L a ccd cl outer) (call (.ref 70) [.ref hp, .int ps tps]) Q E s := by
  k_with_none
  k_with "my sub" => (k_dflt refine' c_subN (by k_asm) (.head _) (by omega) (by omega) ?_)
  k_with "my ite" => (refine split_dec ?_ ?_ <;> intro _)
  k_with "my add" => (k_dflt refine' c_add1 ?_)
  k_with "my mul" => (k_dflt refine' c_mul2 ?_)
  k_with "my len" => (k_dflt refine' c_len (by k_asm) (.head _) (by omega) ?_)
  k_with "my lt" => (k_dflt refine' c_lt (by k_asm) (by first | assumption | exact HeldC.more (by assumption) _ | exact HeldC.more (Held.at (by assumption) (by omega)) _) (by first | assumption | exact HeldC.more (by assumption) _ | exact HeldC.more (Held.at (by assumption) (by omega)) _) (show un + 3 < cLine by omega) ?_)
  k_with "my set" => ((k_dflt refine' c_setN (by k_asm) (by k_asm) hD (by omega) (by omega) ?_); intro h' F' N')
  k_with "my while" => (
    (k_dflt refine' ksw_whileR (σ := List C × Nat × Tok × Tok) (fun c => (hp, listOf (vals c.1).toArray n) :: rest) (fun c => [(Str.ofString "pos", .int (c.2.1 : Nat) c.2.2.1), (Str.ofString "childpos", .int ((2 * c.2.1 + 1 : Nat) : Int) c.2.2.2)]) (fun _ => True) [Str.ofString "rightpos"] (fun c => c.1.length = xs.length ∧ c.2.1 < xs.length ∧ Held rest c.1 ∧ ∀ r q, SU ltMax xs.length c.1 c.2.1 r q → SU ltMax xs.length xs ps r q) (fun c => xs.length - c.2.1) (xs, ps, tps, _) ?kF ?kN trivial ?kk ?kp ?kt ?kE)
    (case kF => k_asm)
    (case kN => k_asm)
    (case kk => kst_all)
    (case kp => exact ⟨rfl, hps, hH, fun _ _ h => h⟩)
    (case kE => passes_own)
    intro c u hx tkx KR kR kFacts kInv kFr kNews
    obtain ⟨ys, q, tq, tc⟩ := c
    obtain ⟨hl', hq', hH', hS'⟩ := kInv
    dsimp only [kstB] at hl' hq' hH' hS' kFr kNews)
  k_with "my turn" => (first
    | (refine ksw_end (ys.set q (cat ys (2 * q + 1 + 1)), 2 * q + 1 + 1, _, _) (by assumption) (by assumption) (fun _ h => h) trivial (by kst_all) (by ksw_same) ⟨by rw [List.length_set]; exact hl', by show 2 * q + 1 + 1 < xs.length; omega, Held.set hH' (Held.at hH' (by omega)) _, fun r q' hr => hS' r q' (SU.go' (by omega) (pick_r (by omega) (by simp only [ltMax, decide_eq_false_iff_not]; assumption)) hr)⟩ (by show xs.length - (2 * q + 1 + 1) < xs.length - q; omega))
    | (refine ksw_end (ys.set q (cat ys (2 * q + 1)), 2 * q + 1, _, _) (by assumption) (by assumption) (fun _ h => h) trivial (by kst_all) (by ksw_same) ⟨by rw [List.length_set]; exact hl', by show 2 * q + 1 < xs.length; omega, Held.set hH' (Held.at hH' (by omega)) _, fun r q' hr => hS' r q' (SU.go' (by omega) (by first | exact pick_o (by omega) | exact pick_l (by simp only [ltMax, decide_eq_true_eq]; assumption)) hr)⟩ (by show xs.length - (2 * q + 1) < xs.length - q; omega)))
  k_with "my call" => (
    (k_dflt refine' siftdown_max (dp := dp + 1) (un := un + 3) (xs := ys.set q (cat xs ps)) (by k_asm) (by k_asm) (by k_asm) (by k_asm) rfl (by k_asm) (by omega) (by omega) (by rw [List.length_set]; omega) (by rw [List.length_set]; omega) hD (Held.set hH' hC _) ?_)
    intro r' h' tk' hr' F' N')
  have hC := Held.at hH hps
  refine wpAny_call ?_
  k_dflt (refine' code_def (binds := [(Str.ofString "heap", .ref hp), (Str.ofString "pos", .int ps tps)]) B F X N T rfl rfl hk ?k6 ?k7 ?k8 ?k9 ?kB ?_ ?c2 ?c3 ?c4 ?c5; (case k6 => k_is); (case k7 => k_is); (case k8 => (show dp < recursionLimit; omega)); (case k9 => exact BindsTo.of_eq rfl); (case c5 => decide); (case kB => exact locs rfl); (case c2 => exact rfl); (case c3 => exact rfl); (case c4 => exact rfl); k_whole)
  intro g' L' h' FG' F' N' B' X' T'
  refine abs_QE (by passes_own) ?_
  intro KQ KE kTo kPE
  k_steps
  exact hret _ _ _ ⟨ys, q, hS' _ _ (SU.stop (by omega)), by rw [cat_set (by omega)] at hr'; exact hr'⟩ (by assumption) (by assumption)

theorem heapreplace_max {w : World} {p : Program} {loose : List Str} {mean : ExcName → Option Value} {mg mb : Str → Option Value}
   {dp un : Nat} {gd : Option (List Code)} {cn : Str} {cs : Scope} {a : Addr} {ccd : Value} {cl : List (Str × Addr)} {outer : List Env} {A₀ : Around} {base h₀ : Heap} {L : Addr} {m : Str → Option Value} {rest : List (Addr × Obj)} {s : Shared}
    {Q E : Value → Shared → Prop} {hp : Addr} {xs : List C} {n : Nat} {c : C}
    (B : Below A₀ base outer h₀) (F : Fr h₀ L s.heap m) (X : (hd.heap_39 w.params).In h₀) (T : Top p loose mean mg mb h₀) (hk : cs.kind = .function) (N : News h₀ L s.heap ((hp, listOf (vals xs).toArray n) :: rest))
    (hdp : dp + 3 < recursionLimit) (hun : un + 24 < cLine) (hps : 0 < xs.length) (hlen : xs.length < 100) (hD : ∀ q ∈ rest, q.1 ≠ hp) (hH : Held rest xs) (hC : HeldC rest c)
    (hret : ∀ r h' tk', Sift ltMax (xs.set 0 c) 0 r → Fr h₀ L h' m → News h₀ L h' ((hp, listOf (vals r).toArray n) :: rest) → Q (.ref (cat xs 0).a) { s with heap := h', toks := tk' }) :
    wpAny (MM w) (ktrTop dp un gd cn cs L a ccd cl outer) (call (.ref 35) [.ref hp, .ref c.a]) Q E s := by
  k_with_none
  k_with "my sub" => (k_dflt refine' c_subN (j := 0) (by k_asm) (.head _) (by omega) (by omega) ?_)
  k_with "my set" => ((k_dflt refine' c_setN (j := 0) (by k_asm) (by k_asm) hD (by omega) (by omega) ?_); intro h' F' N')
  k_with "my call" => (
    (k_dflt refine' siftup_max (dp := dp + 1) (un := un + 3) (xs := xs.set 0 c) (ps := 0) (by k_asm) (by k_asm) (by k_asm) (by k_asm) rfl (by k_asm) (by omega) (by omega) (by rw [List.length_set]; omega) (by rw [List.length_set]; omega) hD (Held.set hH hC _) ?_)
    intro r' h' tk' hr' F' N')
  refine wpAny_call ?_
  k_dflt (refine' code_def (binds := [(Str.ofString "heap", .ref hp), (Str.ofString "item", .ref c.a)]) B F X N T rfl rfl hk ?k6 ?k7 ?k8 ?k9 ?kB ?_ ?c2 ?c3 ?c4 ?c5; (case k6 => k_is); (case k7 => k_is); (case k8 => (show dp < recursionLimit; omega)); (case k9 => exact BindsTo.of_eq rfl); (case c5 => decide); (case kB => exact locs rfl); (case c2 => exact rfl); (case c3 => exact rfl); (case c4 => exact rfl); k_whole)
  intro g' L' h' FG' F' N' B' X' T'
  refine abs_QE (by passes_own) ?_
  intro KQ KE kTo kPE
  k_steps
  exact hret _ _ _ hr' (by assumption) (by assumption)

theorem heapify_max {w : World} {p : Program} {loose : List Str} {mean : ExcName → Option Value} {mg mb : Str → Option Value}
   {dp un : Nat} {gd : Option (List Code)} {cn : Str} {cs : Scope} {a : Addr} {ccd : Value} {cl : List (Str × Addr)} {outer : List Env} {A₀ : Around} {base h₀ : Heap} {L : Addr} {m : Str → Option Value} {rest : List (Addr × Obj)} {s : Shared}
    {Q E : Value → Shared → Prop} {hp : Addr} {xs : List C} {n : Nat}
    (B : Below A₀ base outer h₀) (F : Fr h₀ L s.heap m) (X : (hd.heap_39 w.params).In h₀) (T : Top p loose mean mg mb h₀) (hk : cs.kind = .function) (N : News h₀ L s.heap ((hp, listOf (vals xs).toArray n) :: rest))
    (hdp : dp + 3 < recursionLimit) (hun : un + 24 < cLine) (hlen : xs.length = 6) (hD : ∀ q ∈ rest, q.1 ≠ hp) (hH : Held rest xs)
    (hret : ∀ r1 r2 r h' tk', Sift ltMax xs 2 r1 → Sift ltMax r1 1 r2 → Sift ltMax r2 0 r → Fr h₀ L h' m → News h₀ L h' ((hp, listOf (vals r).toArray n) :: rest) → Q .none { s with heap := h', toks := tk' }) :
    wpAny (MM w) (ktrTop dp un gd cn cs L a ccd cl outer) (call (.ref 42) [.ref hp]) Q E s := by
  k_with_none
  k_with "my len" => (k_dflt refine' c_len6 (by k_asm) (.head _) hlen ?_)
  k_with "my for" => (k_dflt refine' for_start ?_)
  k_with "my rev" => ((k_dflt refine' call_rev_range (by k_asm) (by k_asm) (by assumption) ?_); intro h' I F' N' hI)
  k_with "my iter" => (k_dflt refine' wpAny_pyIter_rangeiter (News.get (by k_asm) (.head _)) ?_)
  refine wpAny_call ?_
  k_dflt (refine' code_def (binds := [(Str.ofString "x", .ref hp)]) B F X N T rfl rfl hk ?k6 ?k7 ?k8 ?k9 ?kB ?_ ?c2 ?c3 ?c4 ?c5; (case k6 => k_is); (case k7 => k_is); (case k8 => (show dp < recursionLimit; omega)); (case k9 => exact BindsTo.of_eq rfl); (case c5 => decide); (case kB => exact locs rfl); (case c2 => exact rfl); (case c3 => exact rfl); (case c4 => exact rfl); k_whole)
  intro g' L' h' FG' F' N' B' X' T'
  refine abs_QE (by passes_own) ?_
  intro KQ KE kTo kPE
  k_steps
  have hhp : hp < I := hI _ (.head _)
  have hDI : ∀ o, ∀ p ∈ (hp, (o : Obj)) :: rest, p.1 ≠ I := fun o p hp => (List.mem_cons.mp hp).elim (fun e => by rw [e]; exact Nat.ne_of_lt hhp) fun h => Nat.ne_of_lt (hI p (.tail _ h))
  have hDh : ∀ {o : Obj}, ∀ p ∈ (I, o) :: rest, p.1 ≠ hp := fun {o} p hp => (List.mem_cons.mp hp).elim (fun e => by rw [e]; exact Nat.ne_of_gt hhp) fun h => hD p h
  refine for_turn (by passes_own) (fun _ => rfl) ?_
  refine next_range 1 2 (by k_asm) (by first | k_asm | exact news_swap (by k_asm)) (hDI _) (by decide) (by decide) (by decide) ?_
  intro h1 F1 N1
  (show wpAny _ _ (assign _ _ _) _ _ _)
  k_steps
  k_dflt (refine' siftup_max (dp := dp + 1) (un := un + 3) (ps := 2) (xs := xs) (rest := (I, rgIt 1 2 (-1)) :: rest) (by k_asm) (by k_asm) (by k_asm) (by k_asm) rfl (news_swap (by k_asm)) (by omega) (by omega) (by omega) (by omega) hDh (fun c hc => HeldC.more (hH c hc) _) ?_)
  intro r1 h1' tk1 hr1 F1' N1'
  have hl1 := hr1.len
  have hH1 : Held rest r1 := hr1.held (by omega) hH
  k_steps
  refine for_turn (by passes_own) (fun _ => rfl) ?_
  refine next_range 0 1 (by k_asm) (by first | k_asm | exact news_swap (by k_asm)) (hDI _) (by decide) (by decide) (by decide) ?_
  intro h2 F2 N2
  (show wpAny _ _ (assign _ _ _) _ _ _)
  k_steps
  k_dflt (refine' siftup_max (dp := dp + 1) (un := un + 3) (ps := 1) (xs := r1) (rest := (I, rgIt 0 1 (-1)) :: rest) (by k_asm) (by k_asm) (by k_asm) (by k_asm) rfl (news_swap (by k_asm)) (by omega) (by omega) (by omega) (by omega) hDh (fun c hc => HeldC.more (hH1 c hc) _) ?_)
  intro r2 h2' tk2 hr2 F2' N2'
  have hl2 := hr2.len
  have hH2 : Held rest r2 := hr2.held (by omega) hH1
  k_steps
  refine for_turn (by passes_own) (fun _ => rfl) ?_
  refine next_range (-1) 0 (by k_asm) (by first | k_asm | exact news_swap (by k_asm)) (hDI _) (by decide) (by decide) (by decide) ?_
  intro h3 F3 N3
  (show wpAny _ _ (assign _ _ _) _ _ _)
  k_steps
  k_dflt (refine' siftup_max (dp := dp + 1) (un := un + 3) (ps := 0) (xs := r2) (rest := (I, rgIt (-1) 0 (-1)) :: rest) (by k_asm) (by k_asm) (by k_asm) (by k_asm) rfl (news_swap (by k_asm)) (by omega) (by omega) (by omega) (by omega) hDh (fun c hc => HeldC.more (hH2 c hc) _) ?_)
  intro r3 h3' tk3 hr3 F3' N3'
  have hl3 := hr3.len
  have hH3 : Held rest r3 := hr3.held (by omega) hH2
  k_steps
  refine for_turn (by passes_own) (fun _ => rfl) ?_
  refine next_range_end (I := I) (x := -1) (left := 0) (step := -1) (rest := (hp, listOf (vals r3).toArray n) :: rest) rfl (by k_asm) (news_swap (by k_asm)) (hDI _) (by decide) ?_
  intro h4 F4 N4
  dsimp only [FTurn]
  k_steps
  exact hret _ _ _ _ _ hr1 hr2 hr3 (by assumption) (by assumption)

theorem nlargest {w : World} {p : Program} {loose : List Str} {mean : ExcName → Option Value} {mg mb : Str → Option Value}
   {dp un : Nat} {gd : Option (List Code)} {cn : Str} {cs : Scope} {a : Addr} {ccd : Value} {cl : List (Str × Addr)} {outer : List Env} {A₀ : Around} {base h₀ : Heap} {L : Addr} {m : Str → Option Value} {rest : List (Addr × Obj)} {s : Shared}
    {Q E : Value → Shared → Prop} {lv : Addr} {vs : List Value} {ns : List Int} {n : Nat} {t6 : Tok}
    (B : Below A₀ base outer h₀) (F : Fr h₀ L s.heap m) (X : (hd.heap_39 w.params).In h₀) (T : Top p loose mean mg mb h₀) (hk : cs.kind = .function) (N : News h₀ L s.heap ((lv, listOf vs.toArray n) :: rest))
    (hdp : dp + 5 < recursionLimit) (hun : un + 40 < cLine) (hD : ∀ q ∈ rest, q.1 ≠ lv) (hI : IntsAre vs ns) (h13 : ns.length = 13)
    (hret : ∀ R ws ys hF tk, NL ltMin (fun e t => decide (t < e)) (fun c d => d.key < c.key) (-1) ns ys → IntsAre ws ys → Fr h₀ L hF m → News h₀ L hF ((R, listOf ws.toArray ws.length) :: (lv, listOf vs.toArray n) :: rest) → (∀ p ∈ (lv, listOf vs.toArray n) :: rest, p.1 < R) → Q (.ref R) { s with heap := hF, toks := tk }) :
    wpAny (MM w) (ktrTop dp un gd cn cs L a ccd cl outer) (call (.ref 82) [.int 6 t6, .ref lv]) Q E s := by
  k_with_none
  have hv13 : vs.length = 13 := by rw [hI.length, h13]
  k_with "my len" => (k_dflt refine' c_len13 (by k_asm) (by k_mem) hv13 ?_)
  k_with "my biter" => ((k_dflt refine' c_iter (l := lv) (by k_asm) (by k_asm) (by k_mem) ?_); intro I hI' oI FI NI hIlt hLI)
  k_with "my comp" => (
    (k_dflt refine' zc_assign (h₀ := g') (L := L') (i2 := I) (l := lv) (vs := vs) (ns := ns) (n := n) (st := (-1)) (by k_asm) (by k_asm) rfl rfl (by decide) (by decide) rfl (by decide) rfl rfl (by decide) (by decide) (by decide) rfl rfl rfl ?_)
    intro KZ kZ)
  k_with "my zip" => (
    (refine zip_src (h₀ := g') (L := L') (n := n) (l := lv) (vs := vs) (b := (-6)) (st := (-1)) (by assumption) (by assumption) hLI (by assumption) (by decide) (by decide) (by k_mem) (fun p hp => Nat.ne_of_lt (hIlt p hp)) (fun hz z TI TO i1 x0 y0 f1 f2 f3 f4 f5 f6 f7 f8 f9 f10 f11 f12 f13 f14 => kZ _ z TI TO i1 x0 y0 f1 f2 f3 f4 f5 f6 f7 hLI (by k_mem) (by assumption) h13 f8 f9 f10 f11 f12 f13 f14 ?_))
    intro D cs0 hD0 tkD oI6 tups hcs0 FD ND hLI6 hDoff hIoff hHt
    have hl0 := len_start hcs0
    have hH0 : Held tups cs0 := held_start (st := (-1)) (by decide) hcs0 hHt)
  k_with "my truthy" => (k_dflt refine' c_truthy6 (by k_asm) (.head _) hl0 ?_)
  k_with "my call" => (
    (k_dflt refine' heapify (dp := dp + 1) (un := un + 3) (xs := cs0) (by k_asm) (by k_asm) (by k_asm) (by k_asm) rfl (by k_asm) (by omega) (by omega) hl0 hDoff (Held.sub hH0 (fun p hp => .tail _ (List.mem_append_left _ hp))) ?_)
    intro r1 r2 r3 hq tkq hr1 hr2 hr3 Fq Nq
    have hl3 : r3.length = 6 := by rw [hr3.len, hr2.len, hr1.len, hl0]
    have hH3 := hr3.held (by rw [hr2.len, hr1.len]; omega) (hr2.held (by rw [hr1.len]; omega) (hr1.held (by omega) hH0)))
  k_with "my sub" => (k_dflt refine' c_subN (j := 0) (by k_asm) (.head _) (by omega) (by omega) ?_)
  k_with "my fst" => ((k_dflt refine' c_fst (by k_asm) (HeldC.sub (Held.at hH3 (by omega)) (fun p hp => .tail _ (.tail _ (List.mem_append_left _ hp)))) ?_); intro ttop)
  k_with "my for" => (k_dflt refine' for_start ?_)
  k_with "my iter" => (k_dflt refine' wpAny_pyIter_listiter (News.isListIter (by k_asm) hLI6) ?_)
  refine wpAny_call ?_
  k_dflt (refine' code_defC (binds := [(Str.ofString "n", .int 6 t6), (Str.ofString "iterable", .ref lv), (Str.ofString "key", .none)]) B F X N T rfl rfl hk ?k6 ?k7 ?k8 ?k9 ?kB ?kD ?_ ?c2 ?c3 ?c4; (case k6 => k_is); (case k7 => k_is); (case k8 => (show dp < recursionLimit; omega)); (case k9 => first | exact BindsTo.of_eq rfl | exact binds_K (by k_in) rfl (by k_is) rfl rfl rfl); (case kB => exact rfl); (case kD => decide +kernel); (case c2 => exact rfl); (case c3 => exact rfl); (case c4 => exact rfl); k_whole)
  intro g' L' h' tk' cells' FG' F' N' Y' B' X' T' l1
  k_cells Y'
  simp only [List.cons_append, List.nil_append] at N'
  refine abs_QE (by passes_own) ?_
  intro KQ KE kTo kPE

  k_steps
  have hR0 : Run ltMin (fun e t => decide (t < e)) (-1) ns 6 r3 (-6) := Run.start hcs0 hr1 hr2 hr3
  rename_i hL1 hL2 hL3 FL NL
  obtain ⟨RL, hI1, hD1, NL1, hsub⟩ : ∃ RL : List (Addr × Obj), (∀ p ∈ tups ++ RL, p.1 ≠ I) ∧ (∀ p ∈ (I, oI6) :: (tups ++ RL), p.1 ≠ D) ∧ News g' L' hL3 ((D, listOf (vals r3).toArray 6) :: (I, oI6) :: (tups ++ RL)) ∧ ∀ p ∈ (lv, listOf vs.toArray n) :: rest, p ∈ RL := ⟨_, hIoff, hDoff, NL, fun p hp => .tail _ hp⟩
  clear NL hIoff hDoff
  refine' ksf_list (σ := St) (l := lv) (vs := vs) (n := n) (fun c => (D, listOf (vals c.cs).toArray 6) :: (c.tups ++ RL)) (fun c => [(Str.ofString "top", .int (cat c.cs 0).x c.tt), (Str.ofString "order", .int c.o c.to)]) [Str.ofString "elem", Str.ofString "_order"]
    (fun k c => Run ltMin (fun e t => decide (t < e)) (-1) ns k c.cs c.o ∧ Held c.tups c.cs ∧ (∀ p ∈ c.tups ++ RL, p.1 ≠ I) ∧ (∀ p ∈ c.tups ++ RL, p.1 ≠ D) ∧ D ≠ I) ⟨r3, (-6), tups, ttop, _⟩ 6 rfl FL (news_swap NL1) hLI6 ?kk ?kP (by omega) ?hoff ?turn ?done ?kE (fun _ => rfl)
  case kk => kst_all
  case kP => exact ⟨hR0, hH3, hI1, fun p hp => hD1 p (.tail _ hp), fun e => hD1 _ (.head _) e.symm⟩
  case kE => passes_own
  case hoff =>
    rintro k c ⟨_, _, h3, _, h5⟩
    refine ⟨fun p hp => ?_, .tail _ (List.mem_append_right _ (hsub _ (.head _)))⟩
    rcases List.mem_cons.mp hp with rfl | hp
    · exact h5
    · exact h3 p hp
  case turn =>
    intro k v c u hx tkx oIk KR kR hvk hP kFr kNews hLIk
    obtain ⟨hRun, hHc, hcI, hcD, hDI⟩ := hP
    obtain ⟨tv, rfl⟩ := ints_at (ns := ns) (by assumption) hvk
    obtain ⟨xs, o, tu, tt, to⟩ := c
    dsimp only [kstB] at hRun hHc hcI hcD kFr kNews ⊢
    have hlx := hRun.len.1
    have hk13 : k < 13 := by have := (List.getElem?_eq_some_iff.mp hvk).1; omega
    k_with "my ite" => (refine split_dec ?_ ?_ <;> intro _)
    k_steps
    · rename_i hlt T0 hT FT NT lT
      have hC1 : HeldC [(T0, tup (ns.getD k 0) o tv to 0)] ⟨T0, ns.getD k 0, o⟩ := ⟨⟨_, _, _, .head _⟩, hRun.small (by decide) (by omega)⟩
      have hTD : ∀ p ∈ (T0, tup (ns.getD k 0) o tv to 0) :: (I, oIk) :: (tu ++ RL), p.1 ≠ D := by
        intro p hp
        rcases List.mem_cons.mp hp with rfl | hp
        · exact Nat.ne_of_gt lT.2.1
        · rcases List.mem_cons.mp hp with rfl | hp
          · exact hDI.symm
          · exact hcD p hp
      k_dflt (refine' heapreplace (dp := dp + 1) (un := un + 3) (xs := xs) (n := 6) (hp := D) (c := ⟨T0, ns.getD k 0, o⟩) (rest := (T0, tup (ns.getD k 0) o tv to 0) :: (I, oIk) :: (tu ++ RL)) (by k_asm) FT (by k_asm) (by k_asm) rfl (news_rot3 NT) (by omega) (by omega) (by omega) (by omega) hTD (Held.sub hHc fun p hp => .tail _ (.tail _ (List.mem_append_left _ hp))) (HeldC.sub hC1 fun p hp => by rw [List.mem_singleton] at hp; rw [hp]; exact .head _) ?_)
      intro r' hR tkR hr' FR NR
      have hRun' := Run.take (a := T0) hRun (by simpa using hlt) hr'
      have hlr := hRun'.len.1
      have hHr : Held ((T0, tup (ns.getD k 0) o tv to 0) :: tu) r' := hr'.held (by rw [List.length_set]; omega) (Held.set (Held.sub hHc fun p hp => .tail _ hp) (HeldC.sub hC1 fun p hp => by rw [List.mem_singleton] at hp; rw [hp]; exact .head _) _)
      k_with "my sub" => (k_dflt refine' c_subN (j := 0) (cs := r') (by k_asm) (.head _) (by omega) (by omega) ?_)
      k_with "my unpack" => ((k_dflt refine' c_unpack rfl (by k_asm) NR (HeldC.sub (Held.at hHr (by omega)) (fun p hp => by simp only [List.mem_cons, List.mem_append] at hp ⊢; rcases hp with h | h <;> simp [h])) rfl rfl rfl rfl ?_); intro t9 u9 h9 tk9 F9 N9)
      k_steps
      dsimp only [KsfPost]
      refine ksf_end ⟨r', o - 1, (T0, tup (ns.getD k 0) o tv to 0) :: tu, t9, _⟩ (by assumption) (news_rot3 (by assumption)) hLIk (by kst_all) (by ksw_same) ⟨by have e : o + (-1) = o - 1 := by { omega }; rw [← e]; exact hRun', hHr, fun p hp => ?_, fun p hp => ?_, hDI⟩
      · rcases List.mem_cons.mp hp with rfl | hp
        · exact Nat.ne_of_gt lT.1
        · exact hcI p hp
      · rcases List.mem_cons.mp hp with rfl | hp
        · exact Nat.ne_of_gt lT.2.1
        · exact hcD p hp
    · rename_i hnlt
      dsimp only [KsfPost]
      exact ksf_end ⟨xs, o, tu, tt, to⟩ (by assumption) (by assumption) hLIk (by kst_all) (by ksw_same) ⟨Run.skip hRun (by simpa using hnlt), hHc, hcI, hcD, hDI⟩
  case done =>
    intro c u hx tkx hP kFr kNews
    obtain ⟨hRun, hHc, hcI, hcD, hDI⟩ := hP
    obtain ⟨xs, o, tu, tt, to⟩ := c
    rw [hv13] at hRun
    dsimp only [kstB] at hRun hHc hcI hcD kFr kNews ⊢
    have hlx := hRun.len.1
    k_with "my sort" => ((k_dflt refine' c_sortR (cs := xs) (by k_asm) kNews hcD (Held.sub hHc fun p hp => List.mem_append_left _ hp) hlx (hRun.nodup (by decide) (by decide)) ?_); intro rs ns' hs hrs1 hrs2 Fs Ns)
    k_with "my sortkw" => (k_dflt refine' callWith_kwb ?_)
    k_with "my lcomp" => ((k_dflt refine' pc_comp (h₀ := g') (L := L') (m := frOf Fs) (D := D) (cs := rs) (n := ns') (rest := tu ++ RL) rfl (by decide) (by decide) rfl (by decide) rfl rfl (by decide) rfl ?_))
    k_steps
    · exact Fs
    · exact Ns
    · exact fun c hc => HeldC.sub (hHc c (hrs1.mem_iff.mp hc)) fun p hp => List.mem_append_left _ hp
    · rw [hrs1.length_eq]; omega
    · rename_i R ws hE tkE hws _ _ hRlt kF kN _ _
      exact hret R ws _ hE tkE ⟨xs, o, rs, hRun, hrs1, hrs2, rfl⟩ hws kF (news_sub kN fun p hp => (List.mem_cons.mp hp).elim (fun e => e ▸ .head _) fun h => .tail _ (.tail _ (List.mem_append_right _ (hsub p h)))) fun p hp => hRlt p (.tail _ (List.mem_append_right _ (hsub p hp)))

theorem nsmallest {w : World} {p : Program} {loose : List Str} {mean : ExcName → Option Value} {mg mb : Str → Option Value}
   {dp un : Nat} {gd : Option (List Code)} {cn : Str} {cs : Scope} {a : Addr} {ccd : Value} {cl : List (Str × Addr)} {outer : List Env} {A₀ : Around} {base h₀ : Heap} {L : Addr} {m : Str → Option Value} {rest : List (Addr × Obj)} {s : Shared}
    {Q E : Value → Shared → Prop} {lv : Addr} {vs : List Value} {ns : List Int} {n : Nat} {t6 : Tok}
    (B : Below A₀ base outer h₀) (F : Fr h₀ L s.heap m) (X : (hd.heap_39 w.params).In h₀) (T : Top p loose mean mg mb h₀) (hk : cs.kind = .function) (N : News h₀ L s.heap ((lv, listOf vs.toArray n) :: rest))
    (hdp : dp + 5 < recursionLimit) (hun : un + 40 < cLine) (hD : ∀ q ∈ rest, q.1 ≠ lv) (hI : IntsAre vs ns) (h13 : ns.length = 13)
    (hret : ∀ R ws ys hF tk, NL ltMax (fun e t => decide (e < t)) (fun c d => c.key < d.key) 1 ns ys → IntsAre ws ys → Fr h₀ L hF m → News h₀ L hF ((R, listOf ws.toArray ws.length) :: (lv, listOf vs.toArray n) :: rest) → (∀ p ∈ (lv, listOf vs.toArray n) :: rest, p.1 < R) → Q (.ref R) { s with heap := hF, toks := tk }) :
    wpAny (MM w) (ktrTop dp un gd cn cs L a ccd cl outer) (call (.ref 76) [.int 6 t6, .ref lv]) Q E s := by
  k_with_none
  have hv13 : vs.length = 13 := by rw [hI.length, h13]
  k_with "my len" => (k_dflt refine' c_len13 (by k_asm) (by k_mem) hv13 ?_)
  k_with "my biter" => ((k_dflt refine' c_iter (l := lv) (by k_asm) (by k_asm) (by k_mem) ?_); intro I hI' oI FI NI hIlt hLI)
  k_with "my comp" => (
    (k_dflt refine' zc_assign (h₀ := g') (L := L') (i2 := I) (l := lv) (vs := vs) (ns := ns) (n := n) (st := 1) (by k_asm) (by k_asm) rfl rfl (by decide) (by decide) rfl (by decide) rfl rfl (by decide) (by decide) (by decide) rfl rfl rfl ?_)
    intro KZ kZ)
  k_with "my zip" => (
    (refine zip_src (h₀ := g') (L := L') (n := n) (l := lv) (vs := vs) (b := 6) (st := 1) (by assumption) (by assumption) hLI (by assumption) (by decide) (by decide) (by k_mem) (fun p hp => Nat.ne_of_lt (hIlt p hp)) (fun hz z TI TO i1 x0 y0 f1 f2 f3 f4 f5 f6 f7 f8 f9 f10 f11 f12 f13 f14 => kZ _ z TI TO i1 x0 y0 f1 f2 f3 f4 f5 f6 f7 hLI (by k_mem) (by assumption) h13 f8 f9 f10 f11 f12 f13 f14 ?_))
    intro D cs0 hD0 tkD oI6 tups hcs0 FD ND hLI6 hDoff hIoff hHt
    have hl0 := len_start hcs0
    have hH0 : Held tups cs0 := held_start (st := 1) (by decide) hcs0 hHt)
  k_with "my truthy" => (k_dflt refine' c_truthy6 (by k_asm) (.head _) hl0 ?_)
  k_with "my call" => (
    (k_dflt refine' heapify_max (dp := dp + 1) (un := un + 3) (xs := cs0) (by k_asm) (by k_asm) (by k_asm) (by k_asm) rfl (by k_asm) (by omega) (by omega) hl0 hDoff (Held.sub hH0 (fun p hp => .tail _ (List.mem_append_left _ hp))) ?_)
    intro r1 r2 r3 hq tkq hr1 hr2 hr3 Fq Nq
    have hl3 : r3.length = 6 := by rw [hr3.len, hr2.len, hr1.len, hl0]
    have hH3 := hr3.held (by rw [hr2.len, hr1.len]; omega) (hr2.held (by rw [hr1.len]; omega) (hr1.held (by omega) hH0)))
  k_with "my sub" => (k_dflt refine' c_subN (j := 0) (by k_asm) (.head _) (by omega) (by omega) ?_)
  k_with "my fst" => ((k_dflt refine' c_fst (by k_asm) (HeldC.sub (Held.at hH3 (by omega)) (fun p hp => .tail _ (.tail _ (List.mem_append_left _ hp)))) ?_); intro ttop)
  k_with "my for" => (k_dflt refine' for_start ?_)
  k_with "my iter" => (k_dflt refine' wpAny_pyIter_listiter (News.isListIter (by k_asm) hLI6) ?_)
  refine wpAny_call ?_
  k_dflt (refine' code_defC (binds := [(Str.ofString "n", .int 6 t6), (Str.ofString "iterable", .ref lv), (Str.ofString "key", .none)]) B F X N T rfl rfl hk ?k6 ?k7 ?k8 ?k9 ?kB ?kD ?_ ?c2 ?c3 ?c4; (case k6 => k_is); (case k7 => k_is); (case k8 => (show dp < recursionLimit; omega)); (case k9 => first | exact BindsTo.of_eq rfl | exact binds_K (by k_in) rfl (by k_is) rfl rfl rfl); (case kB => exact rfl); (case kD => decide +kernel); (case c2 => exact rfl); (case c3 => exact rfl); (case c4 => exact rfl); k_whole)
  intro g' L' h' tk' cells' FG' F' N' Y' B' X' T' l1
  k_cells Y'
  simp only [List.cons_append, List.nil_append] at N'
  refine abs_QE (by passes_own) ?_
  intro KQ KE kTo kPE

  k_steps
  have hR0 : Run ltMax (fun e t => decide (e < t)) 1 ns 6 r3 6 := Run.start hcs0 hr1 hr2 hr3
  rename_i hL1 hL2 hL3 FL NL
  obtain ⟨RL, hI1, hD1, NL1, hsub⟩ : ∃ RL : List (Addr × Obj), (∀ p ∈ tups ++ RL, p.1 ≠ I) ∧ (∀ p ∈ (I, oI6) :: (tups ++ RL), p.1 ≠ D) ∧ News g' L' hL3 ((D, listOf (vals r3).toArray 6) :: (I, oI6) :: (tups ++ RL)) ∧ ∀ p ∈ (lv, listOf vs.toArray n) :: rest, p ∈ RL := ⟨_, hIoff, hDoff, NL, fun p hp => .tail _ hp⟩
  clear NL hIoff hDoff
  refine' ksf_list (σ := St) (l := lv) (vs := vs) (n := n) (fun c => (D, listOf (vals c.cs).toArray 6) :: (c.tups ++ RL)) (fun c => [(Str.ofString "top", .int (cat c.cs 0).x c.tt), (Str.ofString "order", .int c.o c.to)]) [Str.ofString "elem", Str.ofString "_order"]
    (fun k c => Run ltMax (fun e t => decide (e < t)) 1 ns k c.cs c.o ∧ Held c.tups c.cs ∧ (∀ p ∈ c.tups ++ RL, p.1 ≠ I) ∧ (∀ p ∈ c.tups ++ RL, p.1 ≠ D) ∧ D ≠ I) ⟨r3, 6, tups, ttop, _⟩ 6 rfl FL (news_swap NL1) hLI6 ?kk ?kP (by omega) ?hoff ?turn ?done ?kE (fun _ => rfl)
  case kk => kst_all
  case kP => exact ⟨hR0, hH3, hI1, fun p hp => hD1 p (.tail _ hp), fun e => hD1 _ (.head _) e.symm⟩
  case kE => passes_own
  case hoff =>
    rintro k c ⟨_, _, h3, _, h5⟩
    refine ⟨fun p hp => ?_, .tail _ (List.mem_append_right _ (hsub _ (.head _)))⟩
    rcases List.mem_cons.mp hp with rfl | hp
    · exact h5
    · exact h3 p hp
  case turn =>
    intro k v c u hx tkx oIk KR kR hvk hP kFr kNews hLIk
    obtain ⟨hRun, hHc, hcI, hcD, hDI⟩ := hP
    obtain ⟨tv, rfl⟩ := ints_at (ns := ns) (by assumption) hvk
    obtain ⟨xs, o, tu, tt, to⟩ := c
    dsimp only [kstB] at hRun hHc hcI hcD kFr kNews ⊢
    have hlx := hRun.len.1
    have hk13 : k < 13 := by have := (List.getElem?_eq_some_iff.mp hvk).1; omega
    k_with "my ite" => (refine split_dec ?_ ?_ <;> intro _)
    k_steps
    · rename_i hlt T0 hT FT NT lT
      have hC1 : HeldC [(T0, tup (ns.getD k 0) o tv to 0)] ⟨T0, ns.getD k 0, o⟩ := ⟨⟨_, _, _, .head _⟩, hRun.small (by decide) (by omega)⟩
      have hTD : ∀ p ∈ (T0, tup (ns.getD k 0) o tv to 0) :: (I, oIk) :: (tu ++ RL), p.1 ≠ D := by
        intro p hp
        rcases List.mem_cons.mp hp with rfl | hp
        · exact Nat.ne_of_gt lT.2.1
        · rcases List.mem_cons.mp hp with rfl | hp
          · exact hDI.symm
          · exact hcD p hp
      k_dflt (refine' heapreplace_max (dp := dp + 1) (un := un + 3) (xs := xs) (n := 6) (hp := D) (c := ⟨T0, ns.getD k 0, o⟩) (rest := (T0, tup (ns.getD k 0) o tv to 0) :: (I, oIk) :: (tu ++ RL)) (by k_asm) FT (by k_asm) (by k_asm) rfl (news_rot3 NT) (by omega) (by omega) (by omega) (by omega) hTD (Held.sub hHc fun p hp => .tail _ (.tail _ (List.mem_append_left _ hp))) (HeldC.sub hC1 fun p hp => by rw [List.mem_singleton] at hp; rw [hp]; exact .head _) ?_)
      intro r' hR tkR hr' FR NR
      have hRun' := Run.take (a := T0) hRun (by simpa using hlt) hr'
      have hlr := hRun'.len.1
      have hHr : Held ((T0, tup (ns.getD k 0) o tv to 0) :: tu) r' := hr'.held (by rw [List.length_set]; omega) (Held.set (Held.sub hHc fun p hp => .tail _ hp) (HeldC.sub hC1 fun p hp => by rw [List.mem_singleton] at hp; rw [hp]; exact .head _) _)
      k_with "my sub" => (k_dflt refine' c_subN (j := 0) (cs := r') (by k_asm) (.head _) (by omega) (by omega) ?_)
      k_with "my unpack" => ((k_dflt refine' c_unpack rfl (by k_asm) NR (HeldC.sub (Held.at hHr (by omega)) (fun p hp => by simp only [List.mem_cons, List.mem_append] at hp ⊢; rcases hp with h | h <;> simp [h])) rfl rfl rfl rfl ?_); intro t9 u9 h9 tk9 F9 N9)
      k_steps
      dsimp only [KsfPost]
      refine ksf_end ⟨r', o + 1, (T0, tup (ns.getD k 0) o tv to 0) :: tu, t9, _⟩ (by assumption) (news_rot3 (by assumption)) hLIk (by kst_all) (by ksw_same) ⟨by have e : o + 1 = o + 1 := by { omega }; rw [← e]; exact hRun', hHr, fun p hp => ?_, fun p hp => ?_, hDI⟩
      · rcases List.mem_cons.mp hp with rfl | hp
        · exact Nat.ne_of_gt lT.1
        · exact hcI p hp
      · rcases List.mem_cons.mp hp with rfl | hp
        · exact Nat.ne_of_gt lT.2.1
        · exact hcD p hp
    · rename_i hnlt
      dsimp only [KsfPost]
      exact ksf_end ⟨xs, o, tu, tt, to⟩ (by assumption) (by assumption) hLIk (by kst_all) (by ksw_same) ⟨Run.skip hRun (by simpa using hnlt), hHc, hcI, hcD, hDI⟩
  case done =>
    intro c u hx tkx hP kFr kNews
    obtain ⟨hRun, hHc, hcI, hcD, hDI⟩ := hP
    obtain ⟨xs, o, tu, tt, to⟩ := c
    rw [hv13] at hRun
    dsimp only [kstB] at hRun hHc hcI hcD kFr kNews ⊢
    have hlx := hRun.len.1
    k_with "my sort" => ((k_dflt refine' c_sort (cs := xs) (by k_asm) kNews hcD (Held.sub hHc fun p hp => List.mem_append_left _ hp) hlx (hRun.nodup (by decide) (by decide)) ?_); intro rs ns' hs hrs1 hrs2 Fs Ns)
    k_with "my lcomp" => ((k_dflt refine' pc_comp (h₀ := g') (L := L') (m := frOf Fs) (D := D) (cs := rs) (n := ns') (rest := tu ++ RL) rfl (by decide) (by decide) rfl (by decide) rfl rfl (by decide) rfl ?_))
    k_steps
    · exact Fs
    · exact Ns
    · exact fun c hc => HeldC.sub (hHc c (hrs1.mem_iff.mp hc)) fun p hp => List.mem_append_left _ hp
    · rw [hrs1.length_eq]; omega
    · rename_i R ws hE tkE hws _ _ hRlt kF kN _ _
      exact hret R ws _ hE tkE ⟨xs, o, rs, hRun, hrs1, hrs2, rfl⟩ hws kF (news_sub kN fun p hp => (List.mem_cons.mp hp).elim (fun e => e ▸ .head _) fun h => .tail _ (.tail _ (List.mem_append_right _ (hsub p h)))) fun p hp => hRlt p (.tail _ (List.mem_append_right _ (hsub p hp)))

theorem uld_call {w : World} {p : Program} {loose : List Str} {mean : ExcName → Option Value} {mg mb : Str → Option Value}
   {dp un : Nat} {gd : Option (List Code)} {cn : Str} {cs : Scope} {a : Addr} {ccd : Value} {cl : List (Str × Addr)} {h₀ : Heap} {L : Addr} {m : Str → Option Value} {rest : List (Addr × Obj)} {s : Shared}
    {Q E : Value → Shared → Prop} {P Ac : Addr} {ps qs : List Value} {es as : List Int} {np nq : Nat}
    (F : Fr h₀ L s.heap m) (X : (hd.heap_39 w.params).In h₀) (T : Top p loose mean mg mb h₀) (hVE : NoName (Str.ofString "ValueError") p loose) (hk : cs.kind = .function) (N : News h₀ L s.heap ((P, listOf ps.toArray np) :: (Ac, listOf qs.toArray nq) :: rest))
    (hdp : dp + 1 < recursionLimit) (hun : un + 8 < cLine) (hPA : P ≠ Ac) (hP : ∀ q ∈ rest, q.1 ≠ P) (hA : ∀ q ∈ rest, q.1 ≠ Ac) (he : IntsAre ps es) (ha : IntsAre qs as) (hle : es.length ≤ 100) (hla : as.length ≤ 100)
    (hret : ∀ T0 Mi ms qs' n1 n2 hF tk, IntsAre ms (uld es as).1 → IntsAre qs' (uld es as).2 → Fr h₀ L hF m → News h₀ L hF ((T0, { cls := .type "tuple", data := .seq #[.ref Mi, .ref Ac] }) :: (Mi, listOf ms.toArray n1) :: (Ac, listOf qs'.toArray n2) :: rest) →
      (∀ q ∈ (Mi, listOf ms.toArray n1) :: (Ac, listOf qs'.toArray n2) :: rest, q.1 < T0) → (∀ q ∈ (Ac, listOf qs'.toArray n2) :: rest, q.1 < Mi) → Q (.ref T0) { s with heap := hF, toks := tk }) :
    wpAny (MM w) (ktrTop dp un gd cn cs L a ccd cl []) (call (.ref 89) [.ref P, .ref Ac]) Q E s := by
  k_with_none
  k_with "my truthy" => (k_dflt refine' c_truthyL (by k_asm) (.head _) (by assumption) (by have := IntsAre.length hu1; omega) ?_ ?_ <;> intro hne)
  k_with "my while" => (refine stop ?_)
  k_with "my pop" => ((have hpos := List.length_pos_iff.mpr hne); (k_dflt refine' kpa_pop (us := ps1) (l := es1) (by k_asm) (by k_asm) (.head (hoffP _ _ _)) hu1 (by omega) (by rw [sizeLine_eq]; omega) ?_); intro hp tp Fp Np hp1)
  k_with "my try" => (k_dflt refine' wpAny_Try_except ?_)
  k_with "my remove" => ((k_dflt refine' c_remove (qs := qs1) (as := as1) (by k_asm) (by k_asm) (.tail hPA (.head (hoffA _ _))) hu2 (by omega) rfl ?_ ?_ <;> intro hxin))
  refine wpAny_call ?_
  k_dflt (refine' code_raise (env := envX cn cs L a ccd cl) (binds := [(Str.ofString "expected", .ref P), (Str.ofString "actual", .ref Ac)]) F X N T rfl hk ?k6 ?k7 ?k8 ?k9 ?kB ?_ ?c2 ?c3 ?c4 ?c5; (case k6 => k_is); (case k7 => k_is); (case k8 => (show dp < recursionLimit; omega)); (case k9 => exact BindsTo.of_eq rfl); (case c5 => decide); (case kB => exact locs rfl); (case c2 => exact rfl); (case c3 => exact rfl); (case c4 => exact rfl); k_whole)
  intro L' oL h1 CL hFs hnL hLL hnL' F' N'
  simp only [List.cons_append, List.nil_append] at N'
  k_steps
  dsimp only [Stop]
  rename_i Mi hMi lMi hM FM NM
  have hPL : P ≠ L := hnL _ (.head _)
  have hAL : Ac ≠ L := hnL _ (.tail _ (.head _))
  have hLne : ∀ q ∈ rest ++ [(L, oL)], q.1 < Mi := kst_ltOf lMi.2.2
  have hrMi : ∀ q ∈ rest, q.1 < Mi := fun q hq => hLne q (List.mem_append_left _ hq)
  have hLMi : L < Mi := hLne _ (List.mem_append_right _ (.head _))
  have hoffP : ∀ (o1 o2 o3 : Obj), ∀ q ∈ (Ac, o1) :: (Mi, o2) :: (rest ++ [(L, o3)]), q.1 ≠ P := by
    intro o1 o2 o3 q hq
    rcases List.mem_cons.mp hq with rfl | hq
    · exact hPA.symm
    · rcases List.mem_cons.mp hq with rfl | hq
      · exact Nat.ne_of_gt lMi.1
      · rcases List.mem_append.mp hq with hq | hq
        · exact hP q hq
        · rw [List.mem_singleton.mp hq]; exact (hnL _ (.head _)).symm
  have hPMi : P ≠ Mi := Nat.ne_of_lt lMi.1
  have hAMi : Ac ≠ Mi := Nat.ne_of_lt lMi.2.1
  have hoffM : ∀ (o3 : Obj), ∀ q ∈ rest ++ [(L, o3)], q.1 ≠ Mi := by
    intro o3 q hq
    rcases List.mem_append.mp hq with hq | hq
    · exact Nat.ne_of_lt (hrMi q hq)
    · rw [List.mem_singleton.mp hq]; exact Nat.ne_of_lt hLMi
  have hoffA : ∀ (o2 o3 : Obj), ∀ q ∈ (Mi, o2) :: (rest ++ [(L, o3)]), q.1 ≠ Ac := by
    intro o2 o3 q hq
    rcases List.mem_cons.mp hq with rfl | hq
    · exact Nat.ne_of_gt lMi.2.1
    · rcases List.mem_append.mp hq with hq | hq
      · exact hA q hq
      · rw [List.mem_singleton.mp hq]; exact (hnL _ (.tail _ (.head _))).symm
  (refine ksw_whileR (σ := Ul) (h₀ := h₀) (L := L') (fun c => (P, listOf c.ps.toArray c.np) :: (Ac, listOf c.qs.toArray c.nq) :: (Mi, listOf c.ms.toArray c.nm) :: (rest ++ [(L, { oL with slots := c.sl })])) (fun _ => [])
      (fun c => TI.Frs [envX cn cs L a ccd cl] [(L, { oL with slots := c.sl })]) [Str.ofString "item"]
      (fun c => IntsAre c.ps c.es ∧ IntsAre c.qs c.as ∧ IntsAre c.ms c.mm ∧ c.es.length + c.mm.length ≤ 100 ∧ c.as.length ≤ 100 ∧ uldGo c.es.reverse c.as c.mm = uld es as) (fun c => c.es.length) ⟨ps, es, np, qs, as, nq, [], [], 0, oL.slots⟩ FM (news_rot3 (news_rot3 NM)) hFs ?kk ?kp ?kt ?kE)
  (case kk => kst_all)
  (case kp => exact ⟨he, ha, .nil, by simpa using hle, hla, rfl⟩)
  (case kE => passes_own)
  intro c u hx tkx KR kR kFs kInv kFr kNews
  obtain ⟨ps1, es1, np1, qs1, as1, nq1, ms1, mm1, nm1, sl1⟩ := c
  obtain ⟨hu1, hu2, hu3, hu4, hu5, hu6⟩ := kInv
  dsimp only [kstB] at hu1 hu2 hu3 hu4 hu5 hu6 kFs kFr kNews
  have hv1 := hu1.length
  have hv2 := hu2.length
  have hv3 := hu3.length
  k_steps
  · rename_i qs2 FR NR hR2
    refine ksw_end ⟨ps1.dropLast, es1.dropLast, np1 + 1, qs2, as1.erase (es1.getLastD 0), nq1 + 1, ms1, mm1, nm1, sl1⟩ FR NR (fun _ h => h) kFs (by kst_all) (by ksw_same) ⟨hp1, hR2, hu3, (by show es1.dropLast.length + mm1.length ≤ 100; rw [List.length_dropLast]; omega), (by show (as1.erase (es1.getLastD 0)).length ≤ 100; rw [List.length_erase_of_mem hxin]; omega), (by show uldGo es1.dropLast.reverse (as1.erase (es1.getLastD 0)) mm1 = _; rw [← hu6, uld_turn hne, if_pos hxin])⟩ (by show es1.dropLast.length < es1.length; rw [List.length_dropLast]; omega)
  · rename_i h9 F9 N9 hx9 tk8 e9 hne9
    have hne' : TLg.AllNe L ((P, listOf ps1.dropLast.toArray (np1 + 1)) :: (Ac, listOf qs1.toArray nq1) :: (Mi, listOf ms1.toArray nm1) :: rest) := allNe_of fun q hq => by
      rcases List.mem_cons.mp hq with rfl | hq
      · exact hPL
      · rcases List.mem_cons.mp hq with rfl | hq
        · exact hAL
        · rcases List.mem_cons.mp hq with rfl | hq
          · exact Nat.ne_of_gt hLMi
          · exact hnL _ (.tail _ (.tail _ hq))
    refine TLg.noted_new1 (new := (P, listOf ps1.dropLast.toArray (np1 + 1)) :: (Ac, listOf qs1.toArray nq1) :: (Mi, listOf ms1.toArray nm1) :: rest) rfl kFs hne9 F9 N9 hne' (fun h8 sl8 Fs8 H8 => ?_) rfl
    refine TT.HeldNA.land H8 fun h7 H7 => ?_
    refine TT.clause_hitTN H7 T (by decide +kernel) hVE.t2 hVE.t3 hVE.t4 hVE.t5 (fun h6 F6 N6 => ?_)
    simp only [List.cons_append, List.nil_append] at N6
    k_with "my append" => ((k_dflt refine' c_append (vs := ms1) (by k_asm) (by k_asm) (.tail hPMi (.tail hAMi (.head (hoffM _)))) (by omega) ?_); intro h5 F5 N5)
    k_steps
    refine ksw_end ⟨ps1.dropLast, es1.dropLast, np1 + 1, qs1, as1, nq1, ms1 ++ [.int (es1.getLastD 0) tp], mm1 ++ [es1.getLastD 0], nm1 + 1, sl8⟩ F5 N5 (fun _ h => h) Fs8 (by kst_all) (by ksw_same) ⟨hp1, hu2, ints_snoc hu3 _ _, (by show es1.dropLast.length + (mm1 ++ [es1.getLastD 0]).length ≤ 100; rw [List.length_dropLast, List.length_append, List.length_singleton]; omega), hu5, (by show uldGo es1.dropLast.reverse as1 (mm1 ++ [es1.getLastD 0]) = _; rw [← hu6, uld_turn hne, if_neg hxin])⟩ (by show es1.dropLast.length < es1.length; rw [List.length_dropLast]; omega)
  · rename_i T0 hT FT NT lT
    subst hne
    have hfin : uld es as = (mm1, as1) := hu6.symm
    have hL3 : ∀ q ∈ rest ++ [(L, { oL with slots := sl1 })], q.1 < T0 := kst_ltOf lT.2.2.2
    show TI.LeaveI _ _
    refine TLg.leave_back (sl := sl1) (new := (T0, { cls := .type "tuple", data := .seq #[.ref Mi, .ref Ac] }) :: (P, listOf ps1.toArray np1) :: (Ac, listOf qs1.toArray nq1) :: (Mi, listOf ms1.toArray nm1) :: rest) CL FT NT (allNe_of fun q hq => ?_) fun FB NB => ?_
    · rcases List.mem_cons.mp hq with rfl | hq
      · exact Nat.ne_of_gt (hL3 _ (List.mem_append_right _ (.head _)))
      · rcases List.mem_cons.mp hq with rfl | hq
        · exact hPL
        · rcases List.mem_cons.mp hq with rfl | hq
          · exact hAL
          · rcases List.mem_cons.mp hq with rfl | hq
            · exact Nat.ne_of_gt hLMi
            · exact hnL _ (.tail _ (.tail _ hq))
    · refine hret T0 Mi ms1 qs1 nm1 nq1 hT _ (by rw [hfin]; exact hu3) (by rw [hfin]; exact hu2) FB (news_sub NB fun q hq => ?_) (fun q hq => ?_) fun q hq => ?_
      · rcases List.mem_cons.mp hq with rfl | hq
        · exact .head _
        · rcases List.mem_cons.mp hq with rfl | hq
          · exact .tail _ (.tail _ (.tail _ (.head _)))
          · rcases List.mem_cons.mp hq with rfl | hq
            · exact .tail _ (.tail _ (.head _))
            · exact .tail _ (.tail _ (.tail _ (.tail _ hq)))
      · rcases List.mem_cons.mp hq with rfl | hq
        · exact lT.2.2.1
        · rcases List.mem_cons.mp hq with rfl | hq
          · exact lT.2.1
          · exact hL3 _ (List.mem_append_left _ hq)
      · rcases List.mem_cons.mp hq with rfl | hq
        · exact lMi.2.1
        · exact hrMi q hq

theorem over_call {w : World} {p : Program} {loose : List Str} {mean : ExcName → Option Value} {mg mb : Str → Option Value}
   {dp un : Nat} {gd : Option (List Code)} {cn : Str} {cs : Scope} {a : Addr} {ccd : Value} {cl : List (Str × Addr)} {outer : List Env} {A₀ : Around} {base h₀ : Heap} {L : Addr} {m : Str → Option Value} {rest : List (Addr × Obj)} {s : Shared}
    {Q E : Value → Shared → Prop} {g h t : Int} {tg th tt : Tok}
    (B : Below A₀ base outer h₀) (F : Fr h₀ L s.heap m) (X : (hd.heap_39 w.params).In h₀) (T : Top p loose mean mg mb h₀) (hk : cs.kind = .function) (N : News h₀ L s.heap rest) (hdp : dp + 1 < recursionLimit) (hun : un + 8 < cLine)
    (hret : ∀ h' tk tv, Fr h₀ L h' m → News h₀ L h' rest → Q (.int (over g h t) tv) { s with heap := h', toks := tk }) :
    wpAny (MM w) (ktrTop dp un gd cn cs L a ccd cl outer) (call (.ref 103) [.int g tg, .int h th, .int t tt]) Q E s := by
  k_with_none
  k_with "my ite" => (refine split_dec ?_ ?_ <;> intro _)
  refine wpAny_call ?_
  k_dflt (refine' code_def (binds := [(Str.ofString "gap", .int g tg), (Str.ofString "here", .int h th), (Str.ofString "there", .int t tt)]) B F X N T rfl rfl hk ?k6 ?k7 ?k8 ?k9 ?kB ?_ ?c2 ?c3 ?c4 ?c5; (case k6 => k_is); (case k7 => k_is); (case k8 => (show dp < recursionLimit; omega)); (case k9 => exact BindsTo.of_eq rfl); (case c5 => decide); (case kB => exact locs rfl); (case c2 => exact rfl); (case c3 => exact rfl); (case c4 => exact rfl); k_whole)
  intro g' L' h' FG' F' N' B' X' T'
  refine abs_QE (by passes_own) ?_
  intro KQ KE kTo kPE
  k_steps
  all_goals (
    rename_i kF kN _ _
    have z := fun tk tv => hret _ tk tv kF kN
    first
    | (rw [show over g h t = 1 by (unfold over; split <;> (try split) <;> omega)] at z; exact z _ _)
    | (rw [show over g h t = -1 by (unfold over; split <;> (try split) <;> omega)] at z; exact z _ _)
    | (rw [show over g h t = 0 by (unfold over; split <;> (try split) <;> omega)] at z; exact z _ _))

theorem ord_gen : ∀ (n : Nat) {w : World} {p : Program} {loose : List Str} {mean : ExcName → Option Value} {mg mb : Str → Option Value}
   {dp un : Nat} {gd : Option (List Code)} {cn : Str} {cs : Scope} {a : Addr} {ccd : Value} {cl : List (Str × Addr)} {outer : List Env} {A₀ : Around} {base h₀ : Heap} {L : Addr} {m : Str → Option Value} {rest : List (Addr × Obj)} {s : Shared}
    {Q E : Value → Shared → Prop} {P : Addr} {np : Nat} {vs : List Value} {ns : List Int}
    (B : Below A₀ base outer h₀) (F : Fr h₀ L s.heap m) (X : (hd.heap_39 w.params).In h₀) (T : Top p loose mean mg mb h₀) (hk : cs.kind = .function) (N : News h₀ L s.heap ((P, listOf vs.toArray np) :: rest)) (hI : IntsAre vs ns) (hn : ns.length = n) (hn3 : n ≤ 3) (hdp : dp + n + 1 < recursionLimit) (hun : un + 8 * n + 80 < cLine)
    (_ : ∀ R ls nR hF tk, ls.map LO.vs = permsV n vs → Fr h₀ L hF m → News h₀ L hF ((R, listOf (lrefs ls).toArray nR) :: (lobs ls ++ (P, listOf vs.toArray np) :: rest)) → (∀ q ∈ (P, listOf vs.toArray np) :: rest, q.1 < R) → (∀ f ∈ ls, (∀ q ∈ (P, listOf vs.toArray np) :: rest, q.1 < f.a) ∧ f.a ≠ R) → Q (.ref R) { s with heap := hF, toks := tk }),
    wpAny (MM w) (ktrTop dp un gd cn cs L a ccd cl outer) (call (.ref 96) [.ref P]) Q E s := by
  intro n
  induction n with
  | zero =>
    intro w p loose mean mg mb dp un gd cn cs a ccd cl outer A₀ base h₀ L m rest s Q E P np vs ns B F X T hk N hI hn hn3 hdp hun hret
    obtain ⟨rfl, rfl⟩ := ints0 hI hn
    k_with_none
    k_with "my eq" => (k_dflt refine' c_eq1 (vs := []) (us := []) (n := np) (k := 0) (ns := []) (ms := []) (by k_asm) (by kcf_m) (by kcf_m) .nil .nil (by show un + 3 + 64 < cLine; omega) rfl ?_)
    refine wpAny_call ?_
    k_dflt (refine' code_def (binds := [(Str.ofString "those", .ref P)]) B F X N T rfl rfl hk ?k6 ?k7 ?k8 ?k9 ?kB ?_ ?c2 ?c3 ?c4 ?c5; (case k6 => k_is); (case k7 => k_is); (case k8 => (show dp < recursionLimit; omega)); (case k9 => exact BindsTo.of_eq rfl); (case c5 => decide); (case kB => exact locs rfl); (case c2 => exact rfl); (case c3 => exact rfl); (case c4 => exact rfl); k_whole)
    intro g' L' h' FG' F' N' B' X' T'
    refine abs_QE (by passes_own) ?_
    intro KQ KE kTo kPE
    k_steps
    rename_i e0 hA lA e1 hB lB R hF FF NF lR kF kN _ _
    exact hret R [⟨e1, []⟩] 0 hF _ rfl kF (news_sub kN (by kcf_all)) (fun q hq => by rcases List.mem_cons.mp hq with rfl | hq; exact lR.2.2.1; exact kst_ltOf lR.2.2.2 q hq) (fun f hf => by rw [List.mem_singleton.mp hf]; exact ⟨fun q hq => by rcases List.mem_cons.mp hq with rfl | hq; exact lB.2.1; exact kst_ltOf lB.2.2 q hq, Nat.ne_of_lt lR.1⟩)
  | succ n ih =>
    intro w p loose mean mg mb dp un gd cn cs a ccd cl outer A₀ base h₀ L m rest s Q E P np vs ns B F X T hk N hI hn hn3 hdp hun hret
    have hvl := hI.length
    have hIk : ∀ k, IntsAre (vs.take k ++ vs.drop (k + 1)) (ns.take k ++ ns.drop (k + 1)) := fun k => (hI.take k).append (hI.drop (k + 1))
    k_with_none
    k_with "my eq" => (k_dflt refine' c_eq0 (vs := vs) (us := []) (n := np) (k := 0) (ns := ns) (ms := []) (by k_asm) (by kcf_m) (by kcf_m) hI .nil (by show un + 3 + 64 < cLine; omega) (by intro e; rw [e] at hn; cases hn) ?_)
    k_with "my for" => (k_dflt refine' for_start ?_)
    k_with "my iter" => (refine stop ?_)
    k_with "my call" => (refine stop ?_)
    k_with "my append" => (refine stop ?_)
    k_with "my len" => (k_dflt refine' c_lenI (vs := vs) (n := np) (by k_asm) (by kcf_m) hI (by omega) ?_)
    refine wpAny_call ?_
    k_dflt (refine' code_def (binds := [(Str.ofString "those", .ref P)]) B F X N T rfl rfl hk ?k6 ?k7 ?k8 ?k9 ?kB ?_ ?c2 ?c3 ?c4 ?c5; (case k6 => k_is); (case k7 => k_is); (case k8 => (show dp < recursionLimit; omega)); (case k9 => exact BindsTo.of_eq rfl); (case c5 => decide); (case kB => exact locs rfl); (case c2 => exact rfl); (case c3 => exact rfl); (case c4 => exact rfl); k_whole)
    intro g' L' h' FG' F' N' B' X' T'
    refine abs_QE (by passes_own) ?_
    intro KQ KE kTo kPE
    k_steps
    dsimp only [Stop]
    rename_i e0 hB lA R hC lR hD FD ND e9 h1 tk1 tr ur vr hr F1 N1 hk1
    have hRr := kst_ltOf lR.2.2
    refine iter_range (n := ns.length) F1 (news_sub N1 (b := (R, listOf #[] 0) :: (P, listOf vs.toArray np) :: rest) (by kcf_all)) hr (by rw [hn]; exact small_le hn3) (by rw [hn]; exact size_le hn3) ?_
    intro I hI1 FI NI ltI
    (try clear FD)
    (try clear ND)
    (try clear F1)
    (try clear N1)
    (try clear hk1)
    (try clear hr)
    have ltI := allLt_of ltI
    dsimp only [AllLt] at ltI
    have hIr := kst_ltOf ltI.2.2
    refine krf_range (σ := Os) (n := ns.length) (fun c => (R, listOf (lrefs c.ls).toArray c.nR) :: (lobs c.ls ++ (P, listOf vs.toArray np) :: rest)) (fun _ => []) [Str.ofString "i", Str.ofString "rest"]
      (fun k c => c.ls.map LO.vs = ((List.range k).flatMap fun i => (permsV n (vs.take i ++ vs.drop (i + 1))).map (vs.getD i .none :: ·)) ∧ ∀ f ∈ c.ls, @LT.lt Nat instLTNat I f.a) ⟨[], 0⟩ rfl FI NI (fun p hp => by cases hp) ⟨rfl, fun f hf => by cases hf⟩ ?hoff ?turn ?done (by passes_own) (fun _ => rfl)
    case hoff =>
      rintro k c ⟨_, hc⟩ q hq
      rcases List.mem_cons.mp hq with rfl | hq
      · exact Nat.ne_of_lt ltI.1
      rcases List.mem_append.mp hq with hq | hq
      · obtain ⟨f, hf, rfl⟩ := lobs_mem hq
        exact Nat.ne_of_gt (hc f hf)
      rcases List.mem_cons.mp hq with rfl | hq
      · exact Nat.ne_of_lt ltI.2.1
      · exact Nat.ne_of_lt (hIr q hq)
    case done =>
      rintro c u hF tk ⟨hc1, hc2⟩ kFr kNews
      obtain ⟨ls, nR⟩ := c
      dsimp only [kstB] at hc1 hc2 kFr kNews
      k_steps
      rename_i kF kN _ _
      refine hret R ls nR hF _ (by rw [hc1, hn]; rfl) kF kN (fun q hq => ?_) fun f hf => ⟨fun q hq => Nat.lt_trans ?_ (hc2 f hf), Nat.ne_of_gt (Nat.lt_trans ltI.1 (hc2 f hf))⟩
      · rcases List.mem_cons.mp hq with rfl | hq
        · exact lR.2.1
        · exact hRr q hq
      · rcases List.mem_cons.mp hq with rfl | hq
        · exact ltI.2.1
        · exact hIr q hq
    case turn =>
      rintro k t c u h tk KR kR hkn ⟨hc1, hc2⟩ kFr kNews
      obtain ⟨ls, nR⟩ := c
      dsimp only [kstB] at hc1 hc2 kFr kNews
      have hk3 : k < 3 := by omega
      k_with "my add" => (k_dflt refine' c_add1 ?_)
      k_with "my slice" => (refine stop ?_)
      k_with "my cat" => (refine stop ?_)
      (show wpAny _ _ (assign _ _ _) _ _ _)
      k_steps
      dsimp only [Stop]
      rename_i h1 F1 N1
      refine c_upto F1 N1 (.tail _ (.tail _ (List.mem_append_right _ (.head _)))) (by omega) ?_
      clear F1 N1
      intro Da hDa FDa NDa lDa
      k_steps
      dsimp only [Stop]
      refine c_from FDa NDa (.tail _ (.tail _ (.tail _ (List.mem_append_right _ (.head _))))) (by omega) ?_
      clear FDa NDa
      intro Db hDb FDb NDb lDb
      k_steps
      dsimp only [Stop]
      refine c_cat FDb NDb (.tail _ (.head _)) (.head _) (by rw [List.length_take, List.length_drop]; omega) ?_
      clear FDb NDb
      intro Dc hDc FDc NDc lDc
      k_steps
      dsimp only [Stop]
      refine ih (dp := dp + 1) (un := un + 3) (np := 0) (rest := (I, rgIt ((k + 1 : Nat) : Int) ((ns.length : Int) - ((k + 1 : Nat) : Int)) 1) :: (R, listOf (lrefs ls).toArray nR) :: (lobs ls ++ (P, listOf vs.toArray np) :: rest)) B' FDc X' T' rfl (fun q hq => NDc q ?_) (hIk k) (by rw [List.length_append, List.length_take, List.length_drop]; omega) (by omega) (by omega) (by omega) ?_
      · rcases List.mem_cons.mp hq with rfl | hq
        · exact .head _
        · exact .tail _ (.tail _ (.tail _ hq))
      clear FDc NDc
      intro RR ls2 nR2 hq tq hp2 Fq Nq aq lq
      refine iter_list (l := RR) (vs := lrefs ls2) (n := nR2) Fq Nq (.head _) ?_
      intro J hJ oJ FJ NJ ltJ liJ
      clear Fq Nq
      have ltJ := kst_ltOf ltJ
      have hRD := lDc (R, listOf (lrefs ls).toArray nR) (.tail _ (.tail _ (.tail _ (.head _))))
      have hRR := aq (R, listOf (lrefs ls).toArray nR) (.tail _ (.tail _ (.head _)))
      have hRJ := ltJ (R, listOf (lrefs ls).toArray nR) (.tail _ (List.mem_append_right _ (.tail _ (.tail _ (.head _)))))
      dsimp only at hRD hRR hRJ
      refine ksf_list (σ := Os) (l := RR) (vs := lrefs ls2) (n := nR2) (fun c => (R, listOf (lrefs c.ls).toArray c.nR) :: (lobs c.ls ++ (RR, listOf (lrefs ls2).toArray nR2) :: (lobs ls2 ++ (Dc, listOf (vs.take k ++ vs.drop (k + 1)).toArray 0) :: (I, rgIt ((k + 1 : Nat) : Int) ((ns.length : Int) - ((k + 1 : Nat) : Int)) 1) :: (P, listOf vs.toArray np) :: rest))) (fun _ => []) [Str.ofString "rest"]
        (fun j c => c.ls.map LO.vs = ls.map LO.vs ++ (ls2.take j).map (fun f => vs.getD k .none :: f.vs) ∧ ∀ f ∈ c.ls, @LT.lt Nat instLTNat I f.a ∧ f.a ≠ J) ⟨ls, nR⟩ 0 rfl FJ (fun q hq => NJ q ?hN) liJ (fun p hp => by cases hp) ⟨by rw [List.take_zero]; exact (List.append_nil _).symm, fun f hf => ⟨hc2 f hf, ?hJ⟩⟩ (Nat.zero_le _) ?hoff ?turn ?done (by passes_own) (fun _ => rfl)
      case hN =>
        rcases List.mem_cons.mp hq with rfl | hq
        · exact .head _
        · exact .tail _ (mvA hq)
      case hJ => exact Nat.ne_of_lt (ltJ _ (.tail _ (List.mem_append_right _ (.tail _ (.tail _ (.tail _ (List.mem_append_left _ (lobs_of hf))))))))
      case hoff =>
        rintro j c ⟨_, hd⟩
        refine ⟨fun q hq => ?_, .tail _ (List.mem_append_right _ (.head _))⟩
        rcases List.mem_cons.mp hq with rfl | hq
        · exact Nat.ne_of_lt (ltJ (R, listOf (lrefs ls).toArray nR) (.tail _ (List.mem_append_right _ (.tail _ (.tail _ (.head _))))))
        rcases List.mem_append.mp hq with hq | hq
        · obtain ⟨f, hf, rfl⟩ := lobs_mem hq
          exact (hd f hf).2
        · exact Nat.ne_of_lt (ltJ q (mvA (r := (R, listOf (lrefs ls).toArray nR)) (l1 := lobs ls) (.tail _ (List.mem_append_right _ hq))))
      case done =>
        rintro c u hF tk ⟨hd1, hd2⟩ kFr kNews
        obtain ⟨lt, nt⟩ := c
        dsimp only [kstB] at hd1 hd2 kFr kNews
        k_steps
        dsimp only [KrfPost]
        refine krf_end ⟨lt, nt⟩ kFr (fun q hq => kNews q (mvB (fun q hq => .tail _ (List.mem_append_right _ (.tail _ hq))) hq)) (fun p hp => by cases hp) (by ksw_same) ⟨ord_step hc1 hp2 hd1, fun g hg => (hd2 g hg).1⟩
      case turn =>
        rintro j v c u h tk oJ2 KR2 kR2 hv ⟨hd1, hd2⟩ kFr kNews liJ2
        obtain ⟨lt, nt⟩ := c
        obtain ⟨f, hf, rfl⟩ := lrefs_get hv
        dsimp only [kstB] at hd1 hd2 kFr kNews
        clear FJ NJ
        k_with "my sub" => (refine stop ?_)
        (show wpAny _ _ (assign _ _ _) _ _ _)
        k_steps
        dsimp only [Stop]
        rename_i h1 F1 N1
        refine c_item (vs := vs) (n := np) N1 (.tail _ (.tail _ (List.mem_append_right _ (.tail _ (List.mem_append_right _ (.tail _ (.tail _ (.head _)))))))) (by omega) (by omega) (get_getD (by omega)) ?_
        k_steps
        dsimp only [Stop]
        rename_i W hW FW NW lW
        refine c_cat (vs := [vs.getD k .none]) (n := 0) (vs2 := f.vs) (n2 := 0) FW NW (.head _) (.tail _ (.tail _ (.tail _ (List.mem_append_right _ (.tail _ (List.mem_append_left _ (lobs_of (List.mem_of_getElem? hf)))))))) ?hz ?_
        case hz => have := perms_len hp2 (List.mem_of_getElem? hf); show 1 + f.vs.length ≤ 9; omega
        clear FW NW
        intro V hV FV NV lV
        k_steps
        dsimp only [Stop]
        refine c_append (vs := lrefs lt) (n := nt) FV (fun q hq => NV q (mvD hq)) (.head ?hoff2) (by rw [lrefs, List.length_map]; exact Nat.le_trans (ord_len hn3 hk3 hd1 hc1 hp2) (by decide)) ?_
        case hoff2 =>
          intro q hq
          rcases List.mem_cons.mp hq with rfl | hq
          · exact Nat.ne_of_gt (lV (R, listOf (lrefs lt).toArray nt) (.tail _ (.tail _ (.head _))))
          rcases List.mem_cons.mp hq with rfl | hq
          · exact Nat.ne_of_gt hRJ
          rcases List.mem_append.mp hq with hq | hq
          · obtain ⟨g, hg, rfl⟩ := lobs_mem hq
            exact Nat.ne_of_gt (Nat.lt_trans ltI.1 (hd2 g hg).1)
          rcases List.mem_cons.mp hq with rfl | hq
          · exact Nat.ne_of_gt hRR
          rcases List.mem_append.mp hq with hq | hq
          · obtain ⟨g, hg, rfl⟩ := lobs_mem hq
            exact Nat.ne_of_gt ((lq g hg).1 (R, listOf (lrefs ls).toArray nR) (.tail _ (.tail _ (.head _))))
          rcases List.mem_cons.mp hq with rfl | hq
          · exact Nat.ne_of_gt hRD
          rcases List.mem_cons.mp hq with rfl | hq
          · exact Nat.ne_of_gt ltI.1
          rcases List.mem_cons.mp hq with rfl | hq
          · exact Nat.ne_of_lt lR.2.1
          · exact Nat.ne_of_lt (hRr q hq)
        clear FV NV
        intro hU FU NU
        k_steps
        dsimp only [KsfPost]
        refine ksf_end ⟨lt ++ [⟨V, [vs.getD k .none] ++ f.vs⟩], nt + 1⟩ FU (fun q hq => ?_) liJ2 (fun p hp => by cases hp) (by ksw_same) ⟨?_, ?_⟩
        · rw [lrefs_snoc, lobs_snoc] at hq
          exact NU q (mvC hq)
        · rw [take_snoc hf, List.map_append, List.map_append, hd1, List.append_assoc]; rfl
        · intro g hg
          rcases List.mem_append.mp hg with hg | hg
          · exact hd2 g hg
          · rw [List.mem_singleton.mp hg]
            exact ⟨lV (I, rgIt ((k + 1 : Nat) : Int) ((ns.length : Int) - ((k + 1 : Nat) : Int)) 1) (.tail _ (.tail _ (.tail _ (List.mem_append_right _ (.tail _ (List.mem_append_right _ (.tail _ (.head _)))))))), Nat.ne_of_gt (lV (J, oJ2) (.tail _ (.head _)))⟩

theorem s0 {w : World} {p : Program} {loose : List Str} {mean : ExcName → Option Value} {mg mb : Str → Option Value} {dp un : Nat} {gd : Option (List Code)} {fa : Addr} {ccd : Value} {A₀ : Around} {base h₀ : Heap} {L : Addr} {m0 : Str → Option Value} {rest : List (Addr × Obj)} {s : Shared}
    {Q : Flow → Shared → Prop} {E : Value → Shared → Prop} {Sc : Addr} {sv : List Value} {sn : List Int}
    (B : Below A₀ base [] h₀) (X : (hd.heap_39 w.params).In h₀) (T : Top p loose mean mg mb h₀) (hE : PassesOwn (MM w) (lawA dp un gd L fa ccd) (lawEnv L fa ccd) E) (F : Fr h₀ L s.heap (fun y => if y = Str.ofString "script" then some (.ref Sc) else m0 y)) (N : News h₀ L s.heap rest)
    (hS : h₀.IsList Sc sv.toArray) (hI : IntsAre sv sn) (h63 : sn.length ≤ 63)
    (hret : ∀ Dr ys hF tk, IntsAre ys (((sn ++ [0, 4, 3, 3, 9, 10]).take 6).map (fun x => x % 13)) → Fr h₀ L hF (fun y => if y = Str.ofString "drawn" then some (.ref Dr) else if y = Str.ofString "script" then some (.ref Sc) else m0 y) → News h₀ L hF ((Dr, listOf ys.toArray ys.length) :: rest) → (∀ q ∈ rest, q.1 ≠ Dr) → Q .next { s with heap := hF, toks := tk }) :
    wpAny (MM w) (lawA dp un gd L fa ccd) (exec (st 0) (lawEnv L fa ccd)) Q E s := by
  k_with_none
  k_with "my comp" => (k_dflt (refine LCg.Assign_ListComp_U (F₀ := by k_asm) (by rfl) (by with_unfolding_all rfl) (by with_unfolding_all rfl) (by decide) (by rfl) (by decide) (by rfl) (by rfl) (by rfl) ?_))
  k_with "my src" => (refine stop ?_)
  conv in st 0 => whnf
  k_steps
  dsimp only [Stop]
  rename_i l1 h1 lt1 D1 ws1 h2 hI1 lt2 D2 ws2 h3 F3 N3 hI2 hC hL lt3
  refine LCg.CompSrc.ledger rfl F3 N3 (.head _) (by rw [List.size_toArray, hI2.length, sizeLine_eq]; simp only [List.length_take]; omega) ?_
  intro g
  refine kcf_list (fun x => x % 13) hI2 (fun k t I oI C oC D m₂ ys h tk E' hk hC' hx F' N' off ne mk => ?_) ?_
  · clear F3 N3
    k_steps
    refine kcf_el ?_ rfl rfl
    first | rfl | exact (Int.fmod_eq_emod_of_nonneg _ (by decide)).symm
  · show ∀ ys, _ → _
    intro ys hys D hF tk FF NF off
    exact hret D ys hF tk hys FF (news_sub NF (by kcf_all)) (fun q hq => off1_mem off q (by kcf_m))

theorem s1 {w : World} {p : Program} {loose : List Str} {mean : ExcName → Option Value} {mg mb : Str → Option Value} {dp un : Nat} {gd : Option (List Code)} {fa : Addr} {ccd : Value} {A₀ : Around} {base h₀ : Heap} {L : Addr} {m0 : Str → Option Value} {rest : List (Addr × Obj)} {s : Shared}
    {Q : Flow → Shared → Prop} {E : Value → Shared → Prop} {o1 o2 o3 o4 o5 o6 o7 o8 : Obj} {objs : List (Addr × Obj)} {Dr : Addr} {v0 v1 v2 v3 v4 v5 : Value} {n : Nat}
    (B : Below A₀ base [] h₀) (X : (hd.heap_39 w.params).In h₀) (T : Top p loose mean mg mb h₀) (hE : PassesOwn (MM w) (lawA dp un gd L fa ccd) (lawEnv L fa ccd) E) (F : Fr h₀ L s.heap (fun y => if y = Str.ofString "drawn" then some (.ref Dr) else m0 y)) (N : News h₀ L s.heap ((L + 1, o1) :: (L + 2, o2) :: (L + 3, o3) :: (L + 4, o4) :: (L + 5, o5) :: (L + 6, o6) :: (L + 7, o7) :: (L + 8, o8) :: (Dr, listOf #[v0, v1, v2, v3, v4, v5] n) :: objs)) (hlo : ∀ q ∈ (Dr, listOf #[v0, v1, v2, v3, v4, v5] n) :: objs, q.1 ≠ L + 1)
    (d1 : o1.data = .cell none)
    (hret : ∀ O1 o1' hF tk, Fr h₀ L hF (fun y => if y = Str.ofString "drawn" then some (.ref Dr) else m0 y) → News h₀ L hF ((L + 1, o1') :: (L + 2, o2) :: (L + 3, o3) :: (L + 4, o4) :: (L + 5, o5) :: (L + 6, o6) :: (L + 7, o7) :: (L + 8, o8) :: (O1, listOf #[v0, v2, v4] 0) :: (Dr, listOf #[v0, v1, v2, v3, v4, v5] n) :: objs) → o1'.data = .cell (some (.ref O1)) → (L + 8 : Nat) < O1 → (∀ q ∈ (Dr, listOf #[v0, v1, v2, v3, v4, v5] n) :: objs, q.1 < O1) → Q .next { s with heap := hF, toks := tk }) :
    wpAny (MM w) (lawA dp un gd L fa ccd) (exec (st 1) (lawEnv L fa ccd)) Q E s := by
  k_with_none
  have hlt8 : (L + 8 : Nat) < s.heap.objs.size := Heap.lt_size (N (L + 8, o8) (by kcf_m)).1
  k_with "my store" => (refine stop ?_)
  conv in st 1 => whnf
  k_steps
  dsimp only [Stop]
  rename_i h9 F9 N9
  rw [show slicePick #[v0, v1, v2, v3, v4, v5] (some 0) none (some 2) = #[v0, v2, v4] from by first | rfl | (with_unfolding_all rfl)] at N9
  have N8 : News h₀ L h9 ((L + 1, o1) :: (L + 2, o2) :: (L + 3, o3) :: (L + 4, o4) :: (L + 5, o5) :: (L + 6, o6) :: (L + 7, o7) :: (L + 8, o8) :: (s.heap.objs.size + 1, listOf #[v0, v2, v4] 0) :: (Dr, listOf #[v0, v1, v2, v3, v4, v5] n) :: objs) := news_sub N9 (by kcf_all)
  have hlo' : ∀ q ∈ (s.heap.objs.size + 1, listOf #[v0, v2, v4] 0) :: (Dr, listOf #[v0, v1, v2, v3, v4, v5] n) :: objs, q.1 ≠ L + 1 := fun q hq => by
    rcases List.mem_cons.mp hq with rfl | hq
    · exact Nat.ne_of_gt (Nat.lt_of_le_of_lt (Nat.add_le_add_left (by decide : 1 ≤ 8) L) (Nat.lt_succ_of_lt hlt8))
    · exact hlo q hq
  refine storeX_C F9 N8 rfl (upd1n hlo') d1 (fun hF o' FF NF dF => ?_) rfl rfl
  exact hret _ o' hF _ FF NF dF (Nat.lt_succ_of_lt hlt8) fun q hq => Nat.lt_succ_of_lt (Heap.lt_size (N q (.tail _ (.tail _ (.tail _ (.tail _ (.tail _ (.tail _ (.tail _ (.tail _ hq))))))))).1)

theorem s2 {w : World} {p : Program} {loose : List Str} {mean : ExcName → Option Value} {mg mb : Str → Option Value} {dp un : Nat} {gd : Option (List Code)} {fa : Addr} {ccd : Value} {A₀ : Around} {base h₀ : Heap} {L : Addr} {m0 : Str → Option Value} {rest : List (Addr × Obj)} {s : Shared}
    {Q : Flow → Shared → Prop} {E : Value → Shared → Prop} {o1 o2 o3 o4 o5 o6 o7 o8 : Obj} {objs : List (Addr × Obj)} {Dr : Addr} {v0 v1 v2 v3 v4 v5 : Value} {n : Nat}
    (B : Below A₀ base [] h₀) (X : (hd.heap_39 w.params).In h₀) (T : Top p loose mean mg mb h₀) (hE : PassesOwn (MM w) (lawA dp un gd L fa ccd) (lawEnv L fa ccd) E) (F : Fr h₀ L s.heap (fun y => if y = Str.ofString "drawn" then some (.ref Dr) else m0 y)) (N : News h₀ L s.heap ((L + 1, o1) :: (L + 2, o2) :: (L + 3, o3) :: (L + 4, o4) :: (L + 5, o5) :: (L + 6, o6) :: (L + 7, o7) :: (L + 8, o8) :: (Dr, listOf #[v0, v1, v2, v3, v4, v5] n) :: objs)) (hlo : ∀ q ∈ (Dr, listOf #[v0, v1, v2, v3, v4, v5] n) :: objs, q.1 ≠ L + 2)
    (d1 : o2.data = .cell none)
    (hret : ∀ O2 o2' hF tk, Fr h₀ L hF (fun y => if y = Str.ofString "drawn" then some (.ref Dr) else m0 y) → News h₀ L hF ((L + 1, o1) :: (L + 2, o2') :: (L + 3, o3) :: (L + 4, o4) :: (L + 5, o5) :: (L + 6, o6) :: (L + 7, o7) :: (L + 8, o8) :: (O2, listOf #[v1, v3, v5] 0) :: (Dr, listOf #[v0, v1, v2, v3, v4, v5] n) :: objs) → o2'.data = .cell (some (.ref O2)) → (L + 8 : Nat) < O2 → (∀ q ∈ (Dr, listOf #[v0, v1, v2, v3, v4, v5] n) :: objs, q.1 < O2) → Q .next { s with heap := hF, toks := tk }) :
    wpAny (MM w) (lawA dp un gd L fa ccd) (exec (st 2) (lawEnv L fa ccd)) Q E s := by
  k_with_none
  have hlt8 : (L + 8 : Nat) < s.heap.objs.size := Heap.lt_size (N (L + 8, o8) (by kcf_m)).1
  k_with "my store" => (refine stop ?_)
  conv in st 2 => whnf
  k_steps
  dsimp only [Stop]
  rename_i h9 F9 N9
  rw [show slicePick #[v0, v1, v2, v3, v4, v5] (some 1) none (some 2) = #[v1, v3, v5] from by first | rfl | (with_unfolding_all rfl)] at N9
  have N8 : News h₀ L h9 ((L + 1, o1) :: (L + 2, o2) :: (L + 3, o3) :: (L + 4, o4) :: (L + 5, o5) :: (L + 6, o6) :: (L + 7, o7) :: (L + 8, o8) :: (s.heap.objs.size + 1, listOf #[v1, v3, v5] 0) :: (Dr, listOf #[v0, v1, v2, v3, v4, v5] n) :: objs) := news_sub N9 (by kcf_all)
  have hlo' : ∀ q ∈ (s.heap.objs.size + 1, listOf #[v1, v3, v5] 0) :: (Dr, listOf #[v0, v1, v2, v3, v4, v5] n) :: objs, q.1 ≠ L + 2 := fun q hq => by
    rcases List.mem_cons.mp hq with rfl | hq
    · exact Nat.ne_of_gt (Nat.lt_of_le_of_lt (Nat.add_le_add_left (by decide : 2 ≤ 8) L) (Nat.lt_succ_of_lt hlt8))
    · exact hlo q hq
  refine storeX_C F9 N8 rfl (upd2n hlo') d1 (fun hF o' FF NF dF => ?_) rfl rfl
  exact hret _ o' hF _ FF NF dF (Nat.lt_succ_of_lt hlt8) fun q hq => Nat.lt_succ_of_lt (Heap.lt_size (N q (.tail _ (.tail _ (.tail _ (.tail _ (.tail _ (.tail _ (.tail _ (.tail _ hq))))))))).1)

theorem s3 {w : World} {p : Program} {loose : List Str} {mean : ExcName → Option Value} {mg mb : Str → Option Value} {dp un : Nat} {gd : Option (List Code)} {fa : Addr} {ccd : Value} {A₀ : Around} {base h₀ : Heap} {L : Addr} {m0 : Str → Option Value} {rest : List (Addr × Obj)} {s : Shared}
    {Q : Flow → Shared → Prop} {E : Value → Shared → Prop} {o1 o2 o3 o4 o5 o6 o7 o8 : Obj} {objs : List (Addr × Obj)} {a0 a1 a2 a3 a4 a5 : Int} {t0 t1 t2 t3 t4 t5 : Tok} {O1 O2 : Addr}
    (B : Below A₀ base [] h₀) (X : (hd.heap_39 w.params).In h₀) (T : Top p loose mean mg mb h₀) (hE : PassesOwn (MM w) (lawA dp un gd L fa ccd) (lawEnv L fa ccd) E) (hVE : NoName (Str.ofString "ValueError") p loose) (F : Fr h₀ L s.heap m0) (N : News h₀ L s.heap ((L + 1, o1) :: (L + 2, o2) :: (L + 3, o3) :: (L + 4, o4) :: (L + 5, o5) :: (L + 6, o6) :: (L + 7, o7) :: (L + 8, o8) :: (O1, listOf #[.int a0 t0, .int a2 t2, .int a4 t4] 0) :: (O2, listOf #[.int a1 t1, .int a3 t3, .int a5 t5] 0) :: objs))
    (hdp : dp + 1 < recursionLimit) (hun : un + 8 < cLine) (d1 : o1.data = .cell (some (.ref O1))) (d2 : o2.data = .cell (some (.ref O2)))
    (hret : ∀ Mi Le ms ls n1 n2 hF tk, IntsAre ms (uld [a0, a2, a4] [a1, a3, a5]).1 → IntsAre ls (uld [a0, a2, a4] [a1, a3, a5]).2 → Fr h₀ L hF (fun y => if y = Str.ofString "left" then some (.ref Le) else if y = Str.ofString "missing" then some (.ref Mi) else m0 y) →
      News h₀ L hF ((L + 1, o1) :: (L + 2, o2) :: (L + 3, o3) :: (L + 4, o4) :: (L + 5, o5) :: (L + 6, o6) :: (L + 7, o7) :: (L + 8, o8) :: (Mi, listOf ms.toArray n1) :: (Le, listOf ls.toArray n2) :: (O1, listOf #[.int a0 t0, .int a2 t2, .int a4 t4] 0) :: (O2, listOf #[.int a1 t1, .int a3 t3, .int a5 t5] 0) :: objs) → (L + 8 : Nat) < Mi → (L + 8 : Nat) < Le → Q .next { s with heap := hF, toks := tk }) :
    wpAny (MM w) (lawA dp un gd L fa ccd) (exec (st 3) (lawEnv L fa ccd)) Q E s := by
  k_with_none
  have hlt8 : (L + 8 : Nat) < s.heap.objs.size := Heap.lt_size (N (L + 8, o8) (by kcf_m)).1
  k_with "my call" => (refine stop ?_)
  conv in st 3 => whnf
  k_steps
  dsimp only [Stop]
  rename_i D1 c1 h1 lt1 D2 c2 h2 F2 N2 lt2
  have hP := kst_ltOf (d := D1) (l := (L + 1, o1) :: (L + 2, o2) :: (L + 3, o3) :: (L + 4, o4) :: (L + 5, o5) :: (L + 6, o6) :: (L + 7, o7) :: (L + 8, o8) :: (O1, listOf #[.int a0 t0, .int a2 t2, .int a4 t4] 0) :: (O2, listOf #[.int a1 t1, .int a3 t3, .int a5 t5] 0) :: objs) lt1
  have hA := kst_ltOf (d := D2) (l := (L + 1, o1) :: (L + 2, o2) :: (L + 3, o3) :: (L + 4, o4) :: (L + 5, o5) :: (L + 6, o6) :: (L + 7, o7) :: (L + 8, o8) :: (O1, listOf #[.int a0 t0, .int a2 t2, .int a4 t4] 0) :: (O2, listOf #[.int a1 t1, .int a3 t3, .int a5 t5] 0) :: objs) lt2.2
  refine uld_call (rest := (L + 1, o1) :: (L + 2, o2) :: (L + 3, o3) :: (L + 4, o4) :: (L + 5, o5) :: (L + 6, o6) :: (L + 7, o7) :: (L + 8, o8) :: (O1, listOf #[.int a0 t0, .int a2 t2, .int a4 t4] 0) :: (O2, listOf #[.int a1 t1, .int a3 t3, .int a5 t5] 0) :: objs) (ps := [.int a0 t0, .int a2 t2, .int a4 t4]) (qs := [.int a1 t1, .int a3 t3, .int a5 t5]) (es := [a0, a2, a4]) (as := [a1, a3, a5]) F2 X T hVE rfl (news_swap N2) hdp hun (Nat.ne_of_lt lt2.1) (fun q hq => Nat.ne_of_lt (hP q hq)) (fun q hq => Nat.ne_of_lt (hA q hq)) (.cons _ _ (.cons _ _ (.cons _ _ .nil))) (.cons _ _ (.cons _ _ (.cons _ _ .nil))) (by show 3 ≤ 100; decide) (by show 3 ≤ 100; decide) ?_
  intro T0 Mi ms qs' n1 n2 hF tk hms hqs FF NF offT offM
  refine kcp_assign rfl ⟨_, (NF _ (.head _)).1, rfl, _, rfl⟩ rfl rfl rfl FF.ns fun h' tk' hn hk => ?_
  refine hret Mi D2 ms qs' n1 n2 h' tk' hms hqs ⟨hn, fun c o e => hk c o (Nat.ne_of_lt (Nat.lt_of_lt_of_le (Heap.lt_size e) FF.above)) (FF.keep c o e), FF.above⟩ (fun q hq => ?_) ?_ (by have := lt2.2.2.2.2.2.2.2.2.1; exact this)
  · have hq' : q ∈ (T0, { cls := .type "tuple", data := .seq #[.ref Mi, .ref D2] }) :: (Mi, listOf ms.toArray n1) :: (D2, listOf qs'.toArray n2) :: (L + 1, o1) :: (L + 2, o2) :: (L + 3, o3) :: (L + 4, o4) :: (L + 5, o5) :: (L + 6, o6) :: (L + 7, o7) :: (L + 8, o8) :: (O1, listOf #[.int a0 t0, .int a2 t2, .int a4 t4] 0) :: (O2, listOf #[.int a1 t1, .int a3 t3, .int a5 t5] 0) :: objs := by revert q; kcf_all
    exact ⟨hk _ _ (NF q hq').2.1 (NF q hq').1, (NF q hq').2⟩
  · exact offM (L + 8, o8) (by kcf_m)

theorem s4 {w : World} {p : Program} {loose : List Str} {mean : ExcName → Option Value} {mg mb : Str → Option Value} {dp un : Nat} {gd : Option (List Code)} {fa : Addr} {ccd : Value} {A₀ : Around} {base h₀ : Heap} {L : Addr} {m0 : Str → Option Value} {rest : List (Addr × Obj)} {s : Shared}
    {Q : Flow → Shared → Prop} {E : Value → Shared → Prop} {o1 o2 o3 o4 o5 o6 o7 o8 : Obj} {objs : List (Addr × Obj)} {a0 a1 a2 a3 a4 a5 : Int} {t0 t1 t2 t3 t4 t5 : Tok} {O1 O2 Mi Le : Addr} {ms : List Value} {mi : List Int} {n1 : Nat}
    (B : Below A₀ base [] h₀) (X : (hd.heap_39 w.params).In h₀) (T : Top p loose mean mg mb h₀) (hE : PassesOwn (MM w) (lawA dp un gd L fa ccd) (lawEnv L fa ccd) E) (F : Fr h₀ L s.heap (fun y => if y = Str.ofString "left" then some (.ref Le) else if y = Str.ofString "missing" then some (.ref Mi) else m0 y)) (N : News h₀ L s.heap ((L + 1, o1) :: (L + 2, o2) :: (L + 3, o3) :: (L + 4, o4) :: (L + 5, o5) :: (L + 6, o6) :: (L + 7, o7) :: (L + 8, o8) :: (Mi, listOf ms.toArray n1) :: (O1, listOf #[.int a0 t0, .int a2 t2, .int a4 t4] 0) :: (O2, listOf #[.int a1 t1, .int a3 t3, .int a5 t5] 0) :: objs))
    (d1 : o1.data = .cell (some (.ref O1))) (d2 : o2.data = .cell (some (.ref O2))) (hI : IntsAre ms mi)
    (hun : un + 64 < cLine) (hlaw : mi = [2, 1, 0].foldl (missAt [a0, a2, a4] [a1, a3, a5]) [])
    (hret : ∀ hF tk, Fr h₀ L hF (fun y => if y = Str.ofString "left" then some (.ref Le) else if y = Str.ofString "missing" then some (.ref Mi) else m0 y) → News h₀ L hF ((L + 1, o1) :: (L + 2, o2) :: (L + 3, o3) :: (L + 4, o4) :: (L + 5, o5) :: (L + 6, o6) :: (L + 7, o7) :: (L + 8, o8) :: (Mi, listOf ms.toArray n1) :: (O1, listOf #[.int a0 t0, .int a2 t2, .int a4 t4] 0) :: (O2, listOf #[.int a1 t1, .int a3 t3, .int a5 t5] 0) :: objs) → Q .next { s with heap := hF, toks := tk }) :
    wpAny (MM w) (lawA dp un gd L fa ccd) (exec (st 4) (lawEnv L fa ccd)) Q E s := by
  k_with_none
  k_with "my lcomp" => (k_dflt (refine ListComp_D (h₀ := h₀) (L := L) (m := frOf F) (by with_unfolding_all rfl) (by decide) (by rfl) (by decide) (by rfl) ?_))
  k_with "Exists" => (refine stop ?_)
  conv in st 4 => whnf
  k_steps
  dsimp only [Stop]
  rename_i h1 tk1 tr ur vr hr F1 N1 hk1
  refine ⟨_, 2, -1, -1, _, _, _, 3, _, rfl, rfl, F1, N1, hr, by decide, by decide, by rw [sizeLine_eq]; decide, fun g => ?_⟩
  refine kci_rest (ks := [2, 1, 0]) (missAt [a0, a2, a4] [a1, a3, a5]) rfl ?_ (fun k t I oI C oC D m₂ ys l h tk E' hk hy hC hx F' N' off ne mk => ?_) ?_ (missAt_grows _ _)
  · rintro i v hi ⟨t, e⟩
    have : i = 0 ∨ i = 1 ∨ i = 2 := by omega
    rcases this with rfl | rfl | rfl
    · exact ⟨2, t, rfl, e⟩
    · exact ⟨1, t, rfl, e⟩
    · exact ⟨0, t, rfl, e⟩
  · clear F1 N1
    k_with "my getm" => (refine PySem.W.kf_method (by k_asm) (by kcf_m) PySem.F.slot_list_count PySem.F.type_list_count ?_)
    have hk' : k = 2 ∨ k = 1 ∨ k = 0 := by simpa using hk
    rcases hk' with rfl | rfl | rfl
    · k_with "my count" => (first
        | k_dflt refine' c_count (vs := [.int a4 t4]) [a4] (by k_asm) (by kcf_m) (.cons _ _ .nil) ?_
        | k_dflt refine' c_count (vs := [.int a1 t1, .int a3 t3, .int a5 t5]) [a1, a3, a5] (by k_asm) (by kcf_m) (.cons _ _ (.cons _ _ (.cons _ _ .nil))) ?_)
      k_steps
      · exact LCg.CompEnd.intro (by assumption) (by assumption) _ (by kcf_all) off trivial (kci_el (if_pos (by assumption)) rfl rfl)
      · exact LCg.CompEnd.intro (by assumption) (by assumption) _ (by kcf_all) off trivial (kci_no (if_neg (by assumption)) rfl)
    · k_with "my count" => (first
        | k_dflt refine' c_count (vs := [.int a2 t2, .int a4 t4]) [a2, a4] (by k_asm) (by kcf_m) (.cons _ _ (.cons _ _ .nil)) ?_
        | k_dflt refine' c_count (vs := [.int a1 t1, .int a3 t3, .int a5 t5]) [a1, a3, a5] (by k_asm) (by kcf_m) (.cons _ _ (.cons _ _ (.cons _ _ .nil))) ?_)
      k_steps
      · exact LCg.CompEnd.intro (by assumption) (by assumption) _ (by kcf_all) off trivial (kci_el (if_pos (by assumption)) rfl rfl)
      · exact LCg.CompEnd.intro (by assumption) (by assumption) _ (by kcf_all) off trivial (kci_no (if_neg (by assumption)) rfl)
    · k_with "my count" => (first
        | k_dflt refine' c_count (vs := [.int a0 t0, .int a2 t2, .int a4 t4]) [a0, a2, a4] (by k_asm) (by kcf_m) (.cons _ _ (.cons _ _ (.cons _ _ .nil))) ?_
        | k_dflt refine' c_count (vs := [.int a1 t1, .int a3 t3, .int a5 t5]) [a1, a3, a5] (by k_asm) (by kcf_m) (.cons _ _ (.cons _ _ (.cons _ _ .nil))) ?_)
      k_steps
      · exact LCg.CompEnd.intro (by assumption) (by assumption) _ (by kcf_all) off trivial (kci_el (if_pos (by assumption)) rfl rfl)
      · exact LCg.CompEnd.intro (by assumption) (by assumption) _ (by kcf_all) off trivial (kci_no (if_neg (by assumption)) rfl)
  · show ∀ ys, _ → _
    intro ys hys hyl D hF tk FF NF off
    dsimp only [frOf] at FF
    rw [← hlaw] at hys
    k_with "my ne" => (k_dflt refine' c_ne0 (vs := ms) (us := ys) (n := n1) (k := ys.length) NF (by kcf_m) (by kcf_m) hI hys (by show un + 64 < cLine; exact hun) rfl ?_)
    k_steps
    exact hret hF tk FF (news_sub NF (by kcf_all))

theorem s5 {w : World} {p : Program} {loose : List Str} {mean : ExcName → Option Value} {mg mb : Str → Option Value} {dp un : Nat} {gd : Option (List Code)} {fa : Addr} {ccd : Value} {A₀ : Around} {base h₀ : Heap} {L : Addr} {m0 : Str → Option Value} {rest : List (Addr × Obj)} {s : Shared}
    {Q : Flow → Shared → Prop} {E : Value → Shared → Prop} {o1 o2 o3 o4 o5 o6 o7 o8 : Obj} {objs : List (Addr × Obj)} {a0 a1 a2 a3 a4 a5 : Int} {t0 t1 t2 t3 t4 t5 : Tok} {O1 O2 Mi Le : Addr} {ms : List Value} {mi : List Int} {n1 : Nat}
    (B : Below A₀ base [] h₀) (X : (hd.heap_39 w.params).In h₀) (T : Top p loose mean mg mb h₀) (hE : PassesOwn (MM w) (lawA dp un gd L fa ccd) (lawEnv L fa ccd) E) (F : Fr h₀ L s.heap (fun y => if y = Str.ofString "left" then some (.ref Le) else if y = Str.ofString "missing" then some (.ref Mi) else m0 y)) (N : News h₀ L s.heap ((L + 1, o1) :: (L + 2, o2) :: (L + 3, o3) :: (L + 4, o4) :: (L + 5, o5) :: (L + 6, o6) :: (L + 7, o7) :: (L + 8, o8) :: (Le, listOf ms.toArray n1) :: (O1, listOf #[.int a0 t0, .int a2 t2, .int a4 t4] 0) :: (O2, listOf #[.int a1 t1, .int a3 t3, .int a5 t5] 0) :: objs))
    (d1 : o1.data = .cell (some (.ref O1))) (d2 : o2.data = .cell (some (.ref O2))) (hI : IntsAre ms mi)
    (hun : un + 64 < cLine) (hlaw : mi = [0, 1, 2].foldl (leftAt [a0, a2, a4] [a1, a3, a5]) [])
    (hret : ∀ hF tk, Fr h₀ L hF (fun y => if y = Str.ofString "left" then some (.ref Le) else if y = Str.ofString "missing" then some (.ref Mi) else m0 y) → News h₀ L hF ((L + 1, o1) :: (L + 2, o2) :: (L + 3, o3) :: (L + 4, o4) :: (L + 5, o5) :: (L + 6, o6) :: (L + 7, o7) :: (L + 8, o8) :: (Le, listOf ms.toArray n1) :: (O1, listOf #[.int a0 t0, .int a2 t2, .int a4 t4] 0) :: (O2, listOf #[.int a1 t1, .int a3 t3, .int a5 t5] 0) :: objs) → Q .next { s with heap := hF, toks := tk }) :
    wpAny (MM w) (lawA dp un gd L fa ccd) (exec (st 5) (lawEnv L fa ccd)) Q E s := by
  k_with_none
  k_with "my lcomp" => (k_dflt (refine ListComp_D (h₀ := h₀) (L := L) (m := frOf F) (by with_unfolding_all rfl) (by decide) (by rfl) (by decide) (by rfl) ?_))
  k_with "Exists" => (refine stop ?_)
  conv in st 5 => whnf
  k_steps
  dsimp only [Stop]
  rename_i h1 tk1 tr ur vr hr F1 N1 hk1
  refine ⟨_, 0, 3, 1, _, _, _, 3, _, (by first | rfl | trivial), (by first | rfl | trivial), F1, N1, hr, by first | decide | trivial, by first | decide | trivial, by rw [sizeLine_eq]; decide, fun g => ?_⟩
  refine kci_rest (ks := [0, 1, 2]) (leftAt [a0, a2, a4] [a1, a3, a5]) rfl ?_ (fun k t I oI C oC D m₂ ys l h tk E' hk hy hC hx F' N' off ne mk => ?_) ?_ (leftAt_grows _ _)
  · rintro i v hi ⟨t, e⟩
    have : i = 0 ∨ i = 1 ∨ i = 2 := by omega
    rcases this with rfl | rfl | rfl
    · exact ⟨0, t, rfl, e⟩
    · exact ⟨1, t, rfl, e⟩
    · exact ⟨2, t, rfl, e⟩
  · clear F1 N1
    k_with "my getm" => (refine PySem.W.kf_method (by k_asm) (by kcf_m) PySem.F.slot_list_count PySem.F.type_list_count ?_)
    have hk' : k = 0 ∨ k = 1 ∨ k = 2 := by simpa using hk
    rcases hk' with rfl | rfl | rfl
    · k_with "my count" => (first
        | k_dflt refine' c_count (vs := [.int a1 t1]) [a1] (by k_asm) (by kcf_m) (.cons _ _ .nil) ?_
        | k_dflt refine' c_count (vs := [.int a0 t0, .int a2 t2, .int a4 t4]) [a0, a2, a4] (by k_asm) (by kcf_m) (.cons _ _ (.cons _ _ (.cons _ _ .nil))) ?_)
      k_steps
      · exact LCg.CompEnd.intro (by assumption) (by assumption) _ (by kcf_all) off trivial (kci_el (if_pos (by assumption)) rfl rfl)
      · exact LCg.CompEnd.intro (by assumption) (by assumption) _ (by kcf_all) off trivial (kci_no (if_neg (by assumption)) rfl)
    · k_with "my count" => (first
        | k_dflt refine' c_count (vs := [.int a1 t1, .int a3 t3]) [a1, a3] (by k_asm) (by kcf_m) (.cons _ _ (.cons _ _ .nil)) ?_
        | k_dflt refine' c_count (vs := [.int a0 t0, .int a2 t2, .int a4 t4]) [a0, a2, a4] (by k_asm) (by kcf_m) (.cons _ _ (.cons _ _ (.cons _ _ .nil))) ?_)
      k_steps
      · exact LCg.CompEnd.intro (by assumption) (by assumption) _ (by kcf_all) off trivial (kci_el (if_pos (by assumption)) rfl rfl)
      · exact LCg.CompEnd.intro (by assumption) (by assumption) _ (by kcf_all) off trivial (kci_no (if_neg (by assumption)) rfl)
    · k_with "my count" => (first
        | k_dflt refine' c_count (vs := [.int a1 t1, .int a3 t3, .int a5 t5]) [a1, a3, a5] (by k_asm) (by kcf_m) (.cons _ _ (.cons _ _ (.cons _ _ .nil))) ?_
        | k_dflt refine' c_count (vs := [.int a0 t0, .int a2 t2, .int a4 t4]) [a0, a2, a4] (by k_asm) (by kcf_m) (.cons _ _ (.cons _ _ (.cons _ _ .nil))) ?_)
      k_steps
      · exact LCg.CompEnd.intro (by assumption) (by assumption) _ (by kcf_all) off trivial (kci_el (if_pos (by assumption)) rfl rfl)
      · exact LCg.CompEnd.intro (by assumption) (by assumption) _ (by kcf_all) off trivial (kci_no (if_neg (by assumption)) rfl)
  · show ∀ ys, _ → _
    intro ys hys hyl D hF tk FF NF off
    dsimp only [frOf] at FF
    rw [← hlaw] at hys
    k_with "my ne" => (k_dflt refine' c_ne0 (vs := ms) (us := ys) (n := n1) (k := ys.length) NF (by kcf_m) (by kcf_m) hI hys (by show un + 64 < cLine; exact hun) rfl ?_)
    k_steps
    exact hret hF tk FF (news_sub NF (by kcf_all))

theorem s6 {w : World} {p : Program} {loose : List Str} {mean : ExcName → Option Value} {mg mb : Str → Option Value} {dp un : Nat} {gd : Option (List Code)} {fa : Addr} {ccd : Value} {A₀ : Around} {base h₀ : Heap} {L : Addr} {m0 : Str → Option Value} {rest : List (Addr × Obj)} {s : Shared}
    {Q : Flow → Shared → Prop} {E : Value → Shared → Prop} {Le Mi : Addr}
    (B : Below A₀ base [] h₀) (X : (hd.heap_39 w.params).In h₀) (T : Top p loose mean mg mb h₀) (hE : PassesOwn (MM w) (lawA dp un gd L fa ccd) (lawEnv L fa ccd) E) (F : Fr h₀ L s.heap (fun y => if y = Str.ofString "left" then some (.ref Le) else if y = Str.ofString "missing" then some (.ref Mi) else m0 y)) (N : News h₀ L s.heap rest)
    (hret : ∀ Lv hF tk, Fr h₀ L hF (fun y => if y = Str.ofString "levels" then some (.ref Lv) else if y = Str.ofString "left" then some (.ref Le) else if y = Str.ofString "missing" then some (.ref Mi) else m0 y) → News h₀ L hF ((Lv, listOf #[] 0) :: rest) → (∀ q ∈ rest, q.1 < Lv) → Q .next { s with heap := hF, toks := tk }) :
    wpAny (MM w) (lawA dp un gd L fa ccd) (exec (st 6) (lawEnv L fa ccd)) Q E s := by
  k_with_none
  conv in st 6 => whnf
  k_steps
  rename_i Lv h1 lt1 h2 F2 N2
  exact hret Lv h2 _ F2 N2 lt1

structure Lvs where
  vs : List Value
  n : Nat
  o3 : Obj
theorem s7 {w : World} {p : Program} {loose : List Str} {mean : ExcName → Option Value} {mg mb : Str → Option Value} {dp un : Nat} {gd : Option (List Code)} {fa : Addr} {ccd : Value} {A₀ : Around} {base h₀ : Heap} {L : Addr} {m0 : Str → Option Value} {rest : List (Addr × Obj)} {s : Shared}
    {Q : Flow → Shared → Prop} {E : Value → Shared → Prop} {o1 o2 o3 o4 o5 o6 o7 o8 : Obj} {objs : List (Addr × Obj)} {Lv Mi Le : Addr} {ms ls : List Value} {mi le : List Int} {n1 n2 : Nat}
    (B : Below A₀ base [] h₀) (X : (hd.heap_39 w.params).In h₀) (T : Top p loose mean mg mb h₀) (hE : PassesOwn (MM w) (lawA dp un gd L fa ccd) (lawEnv L fa ccd) E) (F : Fr h₀ L s.heap (fun y => if y = Str.ofString "levels" then some (.ref Lv) else if y = Str.ofString "left" then some (.ref Le) else if y = Str.ofString "missing" then some (.ref Mi) else m0 y)) (N : News h₀ L s.heap ((L + 1, o1) :: (L + 2, o2) :: (L + 3, o3) :: (L + 4, o4) :: (L + 5, o5) :: (L + 6, o6) :: (L + 7, o7) :: (L + 8, o8) :: (Lv, listOf #[] 0) :: (Mi, listOf ms.toArray n1) :: (Le, listOf ls.toArray n2) :: objs))
    (hlo : ∀ q ∈ (Lv, listOf #[] 0) :: (Mi, listOf ms.toArray n1) :: (Le, listOf ls.toArray n2) :: objs, (L + 8 : Nat) < q.1) (hLv : ∀ q ∈ (Mi, listOf ms.toArray n1) :: (Le, listOf ls.toArray n2) :: objs, q.1 ≠ Lv)
    (d3 : o3.data = .cell none) (hIm : IntsAre ms mi) (hIl : IntsAre ls le) (hlm : mi.length ≤ 3) (hll : le.length ≤ 3)
    (hret : ∀ vs n o3' hF tk, IntsAre vs (levelsTo mi le 13) → Fr h₀ L hF (fun y => if y = Str.ofString "levels" then some (.ref Lv) else if y = Str.ofString "left" then some (.ref Le) else if y = Str.ofString "missing" then some (.ref Mi) else m0 y) → News h₀ L hF ((L + 1, o1) :: (L + 2, o2) :: (L + 3, o3') :: (L + 4, o4) :: (L + 5, o5) :: (L + 6, o6) :: (L + 7, o7) :: (L + 8, o8) :: (Lv, listOf vs.toArray n) :: (Mi, listOf ms.toArray n1) :: (Le, listOf ls.toArray n2) :: objs) → Q .next { s with heap := hF, toks := tk }) :
    wpAny (MM w) (lawA dp un gd L fa ccd) (exec (st 7) (lawEnv L fa ccd)) Q E s := by
  k_with_none
  k_with "my for" => (k_dflt refine' for_start ?_)
  k_with "my iter" => (refine stop ?_)
  conv in st 7 => whnf
  k_steps
  dsimp only [Stop]
  rename_i h1 tk1 tr ur vr hr F1 N1 hk1
  refine iter_range (n := 13) F1 N1 hr (by decide) (by decide) ?_
  intro I h2 F2 N2 hIlt
  have hAI := allLt_of hIlt
  refine krf_range (σ := Lvs) (n := 13) (fun c => (L + 1, o1) :: (L + 2, o2) :: (L + 3, c.o3) :: (L + 4, o4) :: (L + 5, o5) :: (L + 6, o6) :: (L + 7, o7) :: (L + 8, o8) :: (Lv, listOf c.vs.toArray c.n) :: (Mi, listOf ms.toArray n1) :: (Le, listOf ls.toArray n2) :: objs) (fun _ => []) []
    (fun k c => IntsAre c.vs (levelsTo mi le k) ∧ ∃ v, c.o3.data = .cell v) ⟨[], 0, o3⟩ rfl F2 N2 (fun p hp => by cases hp) ⟨.nil, none, d3⟩ (fun k c _ p hp => by refine Nat.ne_of_lt (kst_ltOf ?_ p hp); exact hAI) ?turn ?done hE (fun _ => rfl)
  case done =>
    intro c u hF tk hP kFr kNews
    obtain ⟨hv, _⟩ := hP
    obtain ⟨vs, n, o3x⟩ := c
    exact hret vs n o3x hF tk hv kFr kNews
  case turn =>
    intro k t c u h tk KR kR hk hP kFr kNews
    obtain ⟨hv, v3, d3'⟩ := hP
    obtain ⟨vs, n, o3x⟩ := c
    dsimp only at hv d3' kNews
    have kFr' : Fr h₀ L h (fun y => if y = Str.ofString "levels" then some (.ref Lv) else if y = Str.ofString "left" then some (.ref Le) else if y = Str.ofString "missing" then some (.ref Mi) else m0 y) := kFr
    clear kFr
    have hlo' : ∀ q ∈ (Lv, listOf vs.toArray n) :: (Mi, listOf ms.toArray n1) :: (Le, listOf ls.toArray n2) :: objs, (L + 8 : Nat) < q.1 := fun q hq => by
      rcases List.mem_cons.mp hq with rfl | hq
      · exact hlo (Lv, listOf #[] 0) (.head _)
      · exact hlo q (.tail _ hq)
    refine wpAny_assign_Name (storeX_C kFr' kNews rfl (.tail (Nat.ne_of_gt (hIlt (L + 3, o3) (by kcf_m))) (upd3 hlo')) d3' (fun h3 o3n F3 N3 d3n => ?_) rfl rfl)
    clear kFr' kNews F2 N2 F1 N1
    k_with "my lcomp" => (k_dflt (refine LCt.ListComp_T (F₀ := by k_asm) (by with_unfolding_all rfl) (by decide) (by rfl) (by decide) (by rfl) ?_))
    k_with "my src" => (refine stop ?_)
    k_steps
    dsimp only [Stop]
    refine LCt.CompSrcT.ledger (its := ms.toArray) (k := n1) rfl F3 N3 (by kcf_m) (by rw [List.size_toArray, hIm.length, sizeLine_eq]; omega) ?_
    intro g1
    refine kci_list (leAt (k : Int)) hIm (fun x tx Ix oIx C oC D m₂ ys l h tk E' hx hy hC hmx F' N' off ne mk => ?_) ?_ (leAt_grows _)
    · clear F3 N3
      k_steps
      · exact LCg.CompEnd.intro (by assumption) (by assumption) _ (by kcf_all) off (.inr ⟨_, by kcf_m, rfl, _, rfl⟩) (kci_el (if_pos (by assumption)) rfl rfl)
      · exact LCg.CompEnd.intro (by assumption) (by assumption) _ (by kcf_all) off (.inr ⟨_, by kcf_m, rfl, _, rfl⟩) (kci_no (if_neg (by assumption)) rfl)
    show ∀ ys, _ → _
    intro ys1 hys1 hyl1 D1 hF1 tk1 FF1 NF1 off1
    rw [leAt_fold, List.nil_append] at hys1
    clear F3 N3
    k_with "my len" => (k_dflt refine' c_lenI (vs := ys1) (n := ys1.length) NF1 (.head _) hys1 (by rw [← hys1.length]; rw [List.size_toArray] at hyl1; have := hIm.length; omega) ?_)
    k_steps
    dsimp only [Stop]
    refine LCt.CompSrcT.ledger (its := ls.toArray) (k := n2) rfl FF1 NF1 (by kcf_m) (by rw [List.size_toArray, hIl.length, sizeLine_eq]; omega) ?_
    intro g2
    refine kci_list (leAt (k : Int)) hIl (fun x tx Ix oIx C oC D m₂ ys l h tk E' hx hy hC hmx F' N' off ne mk => ?_) ?_ (leAt_grows _)
    · clear FF1 NF1
      k_steps
      · exact LCg.CompEnd.intro (by assumption) (by assumption) _ (by kcf_all) off (.inr ⟨_, by kcf_m, rfl, _, rfl⟩) (kci_el (if_pos (by assumption)) rfl rfl)
      · exact LCg.CompEnd.intro (by assumption) (by assumption) _ (by kcf_all) off (.inr ⟨_, by kcf_m, rfl, _, rfl⟩) (kci_no (if_neg (by assumption)) rfl)
    show ∀ ys, _ → _
    intro ys2 hys2 hyl2 D2 hF2 tk2 FF2 NF2 off2
    rw [leAt_fold, List.nil_append] at hys2
    clear FF1 NF1
    k_with "my len" => (k_dflt refine' c_lenI (vs := ys2) (n := ys2.length) NF2 (.head _) hys2 (by rw [← hys2.length]; rw [List.size_toArray] at hyl2; have := hIl.length; omega) ?_)
    k_with "my append" => (refine stop ?_)
    k_steps
    dsimp only [Stop]
    have NA : News h₀ L hF2 ((Lv, listOf vs.toArray n) :: (I, rgIt ((k + 1 : Nat) : Int) ((13 : Nat) - ((k + 1 : Nat) : Int)) 1) :: (L + 1, o1) :: (L + 2, o2) :: (L + 3, o3n) :: (L + 4, o4) :: (L + 5, o5) :: (L + 6, o6) :: (L + 7, o7) :: (L + 8, o8) :: (Mi, listOf ms.toArray n1) :: (Le, listOf ls.toArray n2) :: objs) := news_sub NF2 (by kcf_all)
    have hvl : vs.length ≤ 1000 := by rw [hv.length]; unfold levelsTo; rw [List.length_map, List.length_range]; omega
    refine c_append FF2 NA (.head fun q hq => ?_) hvl fun hA FA NA' => ?_
    · rcases List.mem_cons.mp hq with rfl | hq
      · exact Nat.ne_of_gt (hIlt (Lv, listOf #[] 0) (by kcf_m))
      · exact cells_off (hlo (Lv, listOf #[] 0) (.head _)) hLv q hq
    refine wpAny_execs_nil (post_to kR ?_)
    dsimp only [KrfPost]
    exact krf_end ⟨vs ++ [.int (level mi le (k : Int)) _], n + 1, o3n⟩ FA (news_sub NA' (by kcf_all)) (fun p hp => by cases hp) (fun _ _ _ => rfl) ⟨by rw [levelsTo_succ]; exact ints_snoc hv _ _, _, d3n⟩

theorem s8 {w : World} {p : Program} {loose : List Str} {mean : ExcName → Option Value} {mg mb : Str → Option Value} {dp un : Nat} {gd : Option (List Code)} {fa : Addr} {ccd : Value} {A₀ : Around} {base h₀ : Heap} {L : Addr} {m0 : Str → Option Value} {rest : List (Addr × Obj)} {s : Shared}
    {Q : Flow → Shared → Prop} {E : Value → Shared → Prop} {Lv : Addr} {vs : List Value} {ns : List Int} {n : Nat}
    (B : Below A₀ base [] h₀) (X : (hd.heap_39 w.params).In h₀) (T : Top p loose mean mg mb h₀) (hE : PassesOwn (MM w) (lawA dp un gd L fa ccd) (lawEnv L fa ccd) E) (F : Fr h₀ L s.heap (fun y => if y = Str.ofString "levels" then some (.ref Lv) else m0 y)) (N : News h₀ L s.heap ((Lv, listOf vs.toArray n) :: rest))
    (hdp : dp + 5 < recursionLimit) (hun : un + 40 < cLine) (hD : ∀ q ∈ rest, q.1 ≠ Lv) (hI : IntsAre vs ns) (h13 : ns.length = 13)
    (hret : ∀ Hi ws ys hF tk, NL ltMin (fun e t => decide (t < e)) (fun c d => d.key < c.key) (-1) ns ys → IntsAre ws ys → Fr h₀ L hF (fun y => if y = Str.ofString "high" then some (.ref Hi) else if y = Str.ofString "levels" then some (.ref Lv) else m0 y) → News h₀ L hF ((Hi, listOf ws.toArray ws.length) :: (Lv, listOf vs.toArray n) :: rest) → (∀ q ∈ (Lv, listOf vs.toArray n) :: rest, q.1 < Hi) → Q .next { s with heap := hF, toks := tk }) :
    wpAny (MM w) (lawA dp un gd L fa ccd) (exec (st 8) (lawEnv L fa ccd)) Q E s := by
  k_with_none
  k_with "my call" => (refine stop ?_)
  conv in st 8 => whnf
  k_steps
  dsimp only [Stop]
  refine nlargest B F X T rfl N hdp hun hD hI h13 ?_
  intro R ws ys hF tk hNL hws FF NF off
  refine storeX_L FF NF (fun h' F' N' => ?_) rfl rfl
  exact hret R ws ys h' _ hNL hws F' N' off

theorem s9 {w : World} {p : Program} {loose : List Str} {mean : ExcName → Option Value} {mg mb : Str → Option Value} {dp un : Nat} {gd : Option (List Code)} {fa : Addr} {ccd : Value} {A₀ : Around} {base h₀ : Heap} {L : Addr} {m0 : Str → Option Value} {rest : List (Addr × Obj)} {s : Shared}
    {Q : Flow → Shared → Prop} {E : Value → Shared → Prop} {Lv Hi : Addr} {vs : List Value} {ns : List Int} {n : Nat}
    (B : Below A₀ base [] h₀) (X : (hd.heap_39 w.params).In h₀) (T : Top p loose mean mg mb h₀) (hE : PassesOwn (MM w) (lawA dp un gd L fa ccd) (lawEnv L fa ccd) E) (F : Fr h₀ L s.heap (fun y => if y = Str.ofString "high" then some (.ref Hi) else if y = Str.ofString "levels" then some (.ref Lv) else m0 y)) (N : News h₀ L s.heap ((Lv, listOf vs.toArray n) :: rest))
    (hdp : dp + 5 < recursionLimit) (hun : un + 40 < cLine) (hD : ∀ q ∈ rest, q.1 ≠ Lv) (hI : IntsAre vs ns) (h13 : ns.length = 13)
    (hret : ∀ Lo ws ys hF tk, NL ltMax (fun e t => decide (e < t)) (fun c d => c.key < d.key) 1 ns ys → IntsAre ws ys → Fr h₀ L hF (fun y => if y = Str.ofString "low" then some (.ref Lo) else if y = Str.ofString "high" then some (.ref Hi) else if y = Str.ofString "levels" then some (.ref Lv) else m0 y) → News h₀ L hF ((Lo, listOf ws.toArray ws.length) :: (Lv, listOf vs.toArray n) :: rest) → (∀ q ∈ (Lv, listOf vs.toArray n) :: rest, q.1 < Lo) → Q .next { s with heap := hF, toks := tk }) :
    wpAny (MM w) (lawA dp un gd L fa ccd) (exec (st 9) (lawEnv L fa ccd)) Q E s := by
  k_with_none
  k_with "my call" => (refine stop ?_)
  conv in st 9 => whnf
  k_steps
  dsimp only [Stop]
  refine nsmallest B F X T rfl N hdp hun hD hI h13 ?_
  intro R ws ys hF tk hNL hws FF NF off
  refine storeX_L FF NF (fun h' F' N' => ?_) rfl rfl
  exact hret R ws ys h' _ hNL hws F' N' off

theorem s10 {w : World} {p : Program} {loose : List Str} {mean : ExcName → Option Value} {mg mb : Str → Option Value} {dp un : Nat} {gd : Option (List Code)} {fa : Addr} {ccd : Value} {A₀ : Around} {base h₀ : Heap} {L : Addr} {m0 : Str → Option Value} {rest : List (Addr × Obj)} {s : Shared}
    {Q : Flow → Shared → Prop} {E : Value → Shared → Prop} {Lv Hi Lo : Addr} {us vs : List Value} {hi lo : List Int} {n k : Nat}
    (B : Below A₀ base [] h₀) (X : (hd.heap_39 w.params).In h₀) (T : Top p loose mean mg mb h₀) (hE : PassesOwn (MM w) (lawA dp un gd L fa ccd) (lawEnv L fa ccd) E) (F : Fr h₀ L s.heap (fun y => if y = Str.ofString "low" then some (.ref Lo) else if y = Str.ofString "high" then some (.ref Hi) else if y = Str.ofString "levels" then some (.ref Lv) else m0 y)) (N : News h₀ L s.heap ((Lo, listOf vs.toArray k) :: (Hi, listOf us.toArray n) :: rest))
    (hun : un + 64 < cLine) (hIh : IntsAre us hi) (hIl : IntsAre vs lo) (hl1 : hi.length = 6) (hl2 : lo.length = 6)
    (hlaw : ∀ zs : List Int, zs.Perm (hi ++ lo) → zs.Pairwise (· ≤ ·) → hi ++ lo.reverse = zs.reverse)
    (hret : ∀ hF tk, Fr h₀ L hF (fun y => if y = Str.ofString "low" then some (.ref Lo) else if y = Str.ofString "high" then some (.ref Hi) else if y = Str.ofString "levels" then some (.ref Lv) else m0 y) → News h₀ L hF ((Lo, listOf vs.toArray k) :: (Hi, listOf us.toArray n) :: rest) → Q .next { s with heap := hF, toks := tk }) :
    wpAny (MM w) (lawA dp un gd L fa ccd) (exec (st 10) (lawEnv L fa ccd)) Q E s := by
  k_with_none
  have hv1 := hIh.length
  have hv2 := hIl.length
  k_with "my ne" => (refine stop ?_)
  conv in st 10 => whnf
  k_steps
  dsimp only [Stop]
  rename_i D3 w2 h3 hI2 lt3 D2 w1 h2 hI1 lt2 D1 v1 n1 c1 h1 i1 e1 p1 q1 b1 p01 lt1 D0 w0 h0 F0 N0 hI0 hC0 lt0
  refine c_ne0 (vs := w2) (us := w0) (n := 0) (k := 0) (ns := hi ++ lo.reverse) (ms := n1.reverse) N0 (by kcf_m) (by kcf_m) hI2 hI0 (by show un + 64 < cLine; exact hun) (hlaw _ p1 q1) ?_
  k_steps
  exact hret h0 _ F0 (news_sub N0 (by kcf_all))

theorem s11 {w : World} {p : Program} {loose : List Str} {mean : ExcName → Option Value} {mg mb : Str → Option Value} {dp un : Nat} {gd : Option (List Code)} {fa : Addr} {ccd : Value} {A₀ : Around} {base h₀ : Heap} {L : Addr} {m0 : Str → Option Value} {rest : List (Addr × Obj)} {s : Shared}
    {Q : Flow → Shared → Prop} {E : Value → Shared → Prop} {Lv Hi Lo Mi Le : Addr} {us vs ms ls : List Value} {hi lo mi le : List Int} {n k n1 n2 : Nat}
    (B : Below A₀ base [] h₀) (X : (hd.heap_39 w.params).In h₀) (T : Top p loose mean mg mb h₀) (hE : PassesOwn (MM w) (lawA dp un gd L fa ccd) (lawEnv L fa ccd) E) (F : Fr h₀ L s.heap (fun y => if y = Str.ofString "low" then some (.ref Lo) else if y = Str.ofString "high" then some (.ref Hi) else if y = Str.ofString "levels" then some (.ref Lv) else if y = Str.ofString "left" then some (.ref Le) else if y = Str.ofString "missing" then some (.ref Mi) else m0 y)) (N : News h₀ L s.heap ((Lo, listOf vs.toArray k) :: (Hi, listOf us.toArray n) :: (Mi, listOf ms.toArray n1) :: (Le, listOf ls.toArray n2) :: rest))
    (hun : un + 64 < cLine) (hIh : IntsAre us hi) (hIl : IntsAre vs lo) (hIm : IntsAre ms mi) (hIe : IntsAre ls le) (hl1 : hi.length = 6) (hl2 : lo.length = 6) (hl3 : mi.length ≤ 3) (hl4 : le.length ≤ 3)
    (hret : ∀ hF tk, Fr h₀ L hF (fun y => if y = Str.ofString "low" then some (.ref Lo) else if y = Str.ofString "high" then some (.ref Hi) else if y = Str.ofString "levels" then some (.ref Lv) else if y = Str.ofString "left" then some (.ref Le) else if y = Str.ofString "missing" then some (.ref Mi) else m0 y) → News h₀ L hF ((Lo, listOf vs.toArray k) :: (Hi, listOf us.toArray n) :: (Mi, listOf ms.toArray n1) :: (Le, listOf ls.toArray n2) :: rest) → Q .next { s with heap := hF, toks := tk }) :
    wpAny (MM w) (lawA dp un gd L fa ccd) (exec (st 11) (lawEnv L fa ccd)) Q E s := by
  k_with_none
  have hv1 := hIh.length
  have hv2 := hIl.length
  have hv3 := hIm.length
  have hv4 := hIe.length
  k_with "my lcomp" => (k_dflt (refine LCt.ListComp_T (F₀ := by k_asm) (by with_unfolding_all rfl) (by decide) (by rfl) (by decide) (by rfl) ?_))
  k_with "my src" => (refine stop ?_)
  k_with "my ne" => (refine stop ?_)
  conv in st 11 => whnf
  k_steps
  dsimp only [Stop]
  rename_i D2 w2 h2 hI2 lt2 D1 w1 h1 hI1 lt1 D0 w0 h0 F0 N0 hI0 lt0
  refine LCt.CompSrcT.ledger (its := w0.toArray) (k := 0) rfl F0 N0 (by kcf_m) (by rw [List.size_toArray, hI0.length, sizeLine_eq]; simp only [List.length_append]; omega) ?_
  intro g1
  refine kci_list (fun l _ => l) hI0 (fun x tx Ix oIx C oC D m₂ ys l h tk E' hx hy hC hmx F' N' off ne mk => ?_) ?_ (fun l k => Nat.le_succ _)
  · clear F0 N0
    k_steps
    exact LCg.CompEnd.intro (by assumption) (by assumption) _ (by kcf_all) off (.inr ⟨_, by kcf_m, rfl, _, rfl⟩) (kci_no rfl rfl)
  show ∀ ys, _ → _
  intro ys hys hyl D hF tk FF NF off
  have hnil : (mi ++ le ++ hi ++ lo).foldl (fun (l : List Int) (_ : Int) => l) [] = [] := by
    generalize mi ++ le ++ hi ++ lo = z
    induction z with
    | nil => rfl
    | cons a z ih => exact ih
  rw [hnil] at hys
  clear F0 N0
  k_steps
  dsimp only [Stop]
  rename_i l9 h9 F9 N9 lt9
  refine c_ne0 (vs := ys) (us := []) (n := ys.length) (k := 0) (ns := []) (ms := []) N9 (by kcf_m) (by kcf_m) hys .nil (by show un + 64 < cLine; exact hun) rfl ?_
  k_steps
  exact hret h9 _ F9 (news_sub N9 (by kcf_all))

theorem s12 {w : World} {p : Program} {loose : List Str} {mean : ExcName → Option Value} {mg mb : Str → Option Value} {dp un : Nat} {gd : Option (List Code)} {fa : Addr} {ccd : Value} {A₀ : Around} {base h₀ : Heap} {L : Addr} {m0 : Str → Option Value} {rest : List (Addr × Obj)} {s : Shared}
    {Q : Flow → Shared → Prop} {E : Value → Shared → Prop} {o1 o2 o3 o4 o5 o6 o7 o8 : Obj} {objs : List (Addr × Obj)} {Lv Hi Lo : Addr} {us vs lv : List Value} {hi lo ns : List Int} {n k nl : Nat}
    (B : Below A₀ base [] h₀) (X : (hd.heap_39 w.params).In h₀) (T : Top p loose mean mg mb h₀) (hE : PassesOwn (MM w) (lawA dp un gd L fa ccd) (lawEnv L fa ccd) E) (hVE : NoName (Str.ofString "ValueError") p loose) (F : Fr h₀ L s.heap (fun y => if y = Str.ofString "low" then some (.ref Lo) else if y = Str.ofString "high" then some (.ref Hi) else if y = Str.ofString "levels" then some (.ref Lv) else m0 y)) (N : News h₀ L s.heap ((L + 1, o1) :: (L + 2, o2) :: (L + 3, o3) :: (L + 4, o4) :: (L + 5, o5) :: (L + 6, o6) :: (L + 7, o7) :: (L + 8, o8) :: (Lo, listOf vs.toArray k) :: (Hi, listOf us.toArray n) :: (Lv, listOf lv.toArray nl) :: objs))
    (hlo : ∀ q ∈ (Lo, listOf vs.toArray k) :: (Hi, listOf us.toArray n) :: (Lv, listOf lv.toArray nl) :: objs, (L + 8 : Nat) < q.1)
    (hdp : dp + 1 < recursionLimit) (hun : un + 64 < cLine) (hIh : IntsAre us hi) (hIl : IntsAre vs lo) (hIv : IntsAre lv ns) (hl1 : hi.length = 6) (hl2 : lo.length = 6) (hl3 : ns.length = 13) (d4 : o4.data = .cell none)
    (hret : ∀ No Md os ds n1 n2 o4' hF tk, IntsAre os (uld (hi ++ lo) ns).1 → IntsAre ds (uld (hi ++ lo) ns).2 → Fr h₀ L hF (fun y => if y = Str.ofString "none" then some (.ref No) else if y = Str.ofString "low" then some (.ref Lo) else if y = Str.ofString "high" then some (.ref Hi) else if y = Str.ofString "levels" then some (.ref Lv) else m0 y) →
      News h₀ L hF ((L + 1, o1) :: (L + 2, o2) :: (L + 3, o3) :: (L + 4, o4') :: (L + 5, o5) :: (L + 6, o6) :: (L + 7, o7) :: (L + 8, o8) :: (No, listOf os.toArray n1) :: (Md, listOf ds.toArray n2) :: (Lo, listOf vs.toArray k) :: (Hi, listOf us.toArray n) :: (Lv, listOf lv.toArray nl) :: objs) → o4'.data = .cell (some (.ref Md)) → (L + 8 : Nat) < No → (L + 8 : Nat) < Md → Q .next { s with heap := hF, toks := tk }) :
    wpAny (MM w) (lawA dp un gd L fa ccd) (exec (st 12) (lawEnv L fa ccd)) Q E s := by
  k_with_none
  have hv1 := hIh.length
  have hv2 := hIl.length
  have hv3 := hIv.length
  k_with "my call" => (refine stop ?_)
  conv in st 12 => whnf
  k_steps
  dsimp only [Stop]
  rename_i D1 w1 h1 hI1 lt1 D2 c2 h2 F2 N2 lt2
  have hP := kst_ltOf (d := D1) (l := (L + 1, o1) :: (L + 2, o2) :: (L + 3, o3) :: (L + 4, o4) :: (L + 5, o5) :: (L + 6, o6) :: (L + 7, o7) :: (L + 8, o8) :: (Lo, listOf vs.toArray k) :: (Hi, listOf us.toArray n) :: (Lv, listOf lv.toArray nl) :: objs) lt1
  have hA := kst_ltOf (d := D2) (l := (L + 1, o1) :: (L + 2, o2) :: (L + 3, o3) :: (L + 4, o4) :: (L + 5, o5) :: (L + 6, o6) :: (L + 7, o7) :: (L + 8, o8) :: (Lo, listOf vs.toArray k) :: (Hi, listOf us.toArray n) :: (Lv, listOf lv.toArray nl) :: objs) lt2.2
  refine uld_call (rest := (L + 1, o1) :: (L + 2, o2) :: (L + 3, o3) :: (L + 4, o4) :: (L + 5, o5) :: (L + 6, o6) :: (L + 7, o7) :: (L + 8, o8) :: (Lo, listOf vs.toArray k) :: (Hi, listOf us.toArray n) :: (Lv, listOf lv.toArray nl) :: objs) (ps := w1) (qs := lv) (es := hi ++ lo) (as := ns) F2 X T hVE rfl (news_swap N2) hdp (by omega) (Nat.ne_of_lt lt2.1) (fun q hq => Nat.ne_of_lt (hP q hq)) (fun q hq => Nat.ne_of_lt (hA q hq)) hI1 hIv (by rw [List.length_append]; omega) (by omega) ?_
  intro T0 No os ds n1 n2 hF tk hos hds FF NF offT offM
  refine wpAny_assign_Tuple rfl ⟨_, (NF _ (.head _)).1, rfl, _, rfl⟩ rfl rfl fun h₁ he₁ => ?_
  have up : ∀ c o, hF.get? c = some o → h₁.get? c = some o := fun c o e => he₁ c o (Nat.ne_of_lt (Heap.lt_size e)) e
  show wpAny _ _ (assignInOrder [assign (.Name _ _) _, assign (.Name _ _) _] [_, _]) _ _ _
  refine assignInOrder_cons (wpAny_assign_Name (storeX_L (FF.keeps up) (NF.grown up) (fun h₂ F₂ N₂ => ?_) rfl rfl))
  have N₃ : News h₀ L h₂ ((L + 1, o1) :: (L + 2, o2) :: (L + 3, o3) :: (L + 4, o4) :: (L + 5, o5) :: (L + 6, o6) :: (L + 7, o7) :: (L + 8, o8) :: (No, listOf os.toArray n1) :: (D2, listOf ds.toArray n2) :: (Lo, listOf vs.toArray k) :: (Hi, listOf us.toArray n) :: (Lv, listOf lv.toArray nl) :: objs) := news_sub N₂ (by kcf_all)
  have h8N : (L + 8 : Nat) < No := offM (L + 8, o8) (by kcf_m)
  have h8D : (L + 8 : Nat) < D2 := hA (L + 8, o8) (by kcf_m)
  have hlo' : ∀ q ∈ (No, listOf os.toArray n1) :: (D2, listOf ds.toArray n2) :: (Lo, listOf vs.toArray k) :: (Hi, listOf us.toArray n) :: (Lv, listOf lv.toArray nl) :: objs, (L + 8 : Nat) < q.1 := fun q hq => by
    rcases List.mem_cons.mp hq with rfl | hq
    · exact h8N
    · rcases List.mem_cons.mp hq with rfl | hq
      · exact h8D
      · exact hlo q hq
  refine assignInOrder_cons (wpAny_assign_Name (storeX_C F₂ N₃ rfl (upd4 hlo') d4 (fun h₄ o' F₄ N₄ d' => ?_) rfl rfl))
  exact assignInOrder_nil (hret No D2 os ds n1 n2 o' h₄ _ hos hds F₄ N₄ d' h8N h8D)

theorem s13 {w : World} {p : Program} {loose : List Str} {mean : ExcName → Option Value} {mg mb : Str → Option Value} {dp un : Nat} {gd : Option (List Code)} {fa : Addr} {ccd : Value} {A₀ : Around} {base h₀ : Heap} {L : Addr} {m0 : Str → Option Value} {rest : List (Addr × Obj)} {s : Shared}
    {Q : Flow → Shared → Prop} {E : Value → Shared → Prop} {o1 o2 o3 o4 o5 o6 o7 o8 : Obj} {objs : List (Addr × Obj)} {No Md : Addr} {os ds : List Value} {md : Int} {n1 n2 : Nat}
    (B : Below A₀ base [] h₀) (X : (hd.heap_39 w.params).In h₀) (T : Top p loose mean mg mb h₀) (hE : PassesOwn (MM w) (lawA dp un gd L fa ccd) (lawEnv L fa ccd) E) (F : Fr h₀ L s.heap (fun y => if y = Str.ofString "none" then some (.ref No) else m0 y)) (N : News h₀ L s.heap ((L + 1, o1) :: (L + 2, o2) :: (L + 3, o3) :: (L + 4, o4) :: (L + 5, o5) :: (L + 6, o6) :: (L + 7, o7) :: (L + 8, o8) :: (No, listOf os.toArray n1) :: (Md, listOf ds.toArray n2) :: objs))
    (hun : un + 64 < cLine) (hIo : IntsAre os []) (hId : IntsAre ds [md]) (d4 : o4.data = .cell (some (.ref Md)))
    (hret : ∀ hF tk, Fr h₀ L hF (fun y => if y = Str.ofString "none" then some (.ref No) else m0 y) → News h₀ L hF ((L + 1, o1) :: (L + 2, o2) :: (L + 3, o3) :: (L + 4, o4) :: (L + 5, o5) :: (L + 6, o6) :: (L + 7, o7) :: (L + 8, o8) :: (No, listOf os.toArray n1) :: (Md, listOf ds.toArray n2) :: objs) → Q .next { s with heap := hF, toks := tk }) :
    wpAny (MM w) (lawA dp un gd L fa ccd) (exec (st 13) (lawEnv L fa ccd)) Q E s := by
  k_with_none
  k_with "my ne" => (refine stop ?_)
  conv in st 13 => whnf
  k_steps
  dsimp only [Stop]
  rename_i l9 h9 F9 N9 lt9
  refine c_ne0 (vs := os) (us := []) (n := n1) (k := 0) (ns := []) (ms := []) N9 (by kcf_m) (by kcf_m) hIo .nil (by show un + 64 < cLine; exact hun) rfl ?_
  k_with "my len" => (k_dflt refine' c_lenI (vs := ds) (n := n2) (ns := [md]) N9 (by kcf_m) hId (by show 1 ≤ 1000; decide) ?_)
  k_steps
  · rename_i hc
    exact absurd rfl hc
  · exact hret h9 _ F9 (news_sub N9 (by kcf_all))

theorem s14 {w : World} {p : Program} {loose : List Str} {mean : ExcName → Option Value} {mg mb : Str → Option Value} {dp un : Nat} {gd : Option (List Code)} {fa : Addr} {ccd : Value} {A₀ : Around} {base h₀ : Heap} {L : Addr} {m0 : Str → Option Value} {rest : List (Addr × Obj)} {s : Shared}
    {Q : Flow → Shared → Prop} {E : Value → Shared → Prop} {o1 o2 o3 o4 o5 o6 o7 o8 : Obj} {objs : List (Addr × Obj)}
    (B : Below A₀ base [] h₀) (X : (hd.heap_39 w.params).In h₀) (T : Top p loose mean mg mb h₀) (hE : PassesOwn (MM w) (lawA dp un gd L fa ccd) (lawEnv L fa ccd) E) (F : Fr h₀ L s.heap m0) (N : News h₀ L s.heap ((L + 1, o1) :: (L + 2, o2) :: (L + 3, o3) :: (L + 4, o4) :: (L + 5, o5) :: (L + 6, o6) :: (L + 7, o7) :: (L + 8, o8) :: objs)) (hlo : ∀ q ∈ objs, (L + 8 : Nat) < q.1) (d5 : o5.data = .cell none)
    (hret : ∀ Fl o5' hF tk, Fr h₀ L hF m0 → News h₀ L hF ((L + 1, o1) :: (L + 2, o2) :: (L + 3, o3) :: (L + 4, o4) :: (L + 5, o5') :: (L + 6, o6) :: (L + 7, o7) :: (L + 8, o8) :: (Fl, listOf #[] 0) :: objs) → o5'.data = .cell (some (.ref Fl)) → (L + 8 : Nat) < Fl → (∀ q ∈ objs, q.1 < Fl) → Q .next { s with heap := hF, toks := tk }) :
    wpAny (MM w) (lawA dp un gd L fa ccd) (exec (st 14) (lawEnv L fa ccd)) Q E s := by
  k_with_none
  k_with "my store" => (refine stop ?_)
  conv in st 14 => whnf
  k_steps
  dsimp only [Stop]
  rename_i Fl h1 F1 N1 lt1
  have hA := kst_ltOf (d := Fl) (l := (L + 1, o1) :: (L + 2, o2) :: (L + 3, o3) :: (L + 4, o4) :: (L + 5, o5) :: (L + 6, o6) :: (L + 7, o7) :: (L + 8, o8) :: objs) lt1
  have hlo' : ∀ q ∈ (Fl, listOf #[] 0) :: objs, (L + 8 : Nat) < q.1 := fun q hq => by
    rcases List.mem_cons.mp hq with rfl | hq
    · exact hA (L + 8, o8) (by kcf_m)
    · exact hlo q hq
  have N2 : News h₀ L h1 ((L + 1, o1) :: (L + 2, o2) :: (L + 3, o3) :: (L + 4, o4) :: (L + 5, o5) :: (L + 6, o6) :: (L + 7, o7) :: (L + 8, o8) :: (Fl, listOf #[] 0) :: objs) := news_sub N1 (by kcf_all)
  refine storeX_C F1 N2 rfl (upd5 hlo') d5 (fun hF o' FF NF d' => ?_) rfl rfl
  exact hret Fl o' hF _ FF NF d' (hA (L + 8, o8) (by kcf_m)) fun q hq => hA q (.tail _ (.tail _ (.tail _ (.tail _ (.tail _ (.tail _ (.tail _ (.tail _ hq))))))))

theorem s15 {w : World} {p : Program} {loose : List Str} {mean : ExcName → Option Value} {mg mb : Str → Option Value} {dp un : Nat} {gd : Option (List Code)} {fa : Addr} {ccd : Value} {A₀ : Around} {base h₀ : Heap} {L : Addr} {m0 : Str → Option Value} {rest : List (Addr × Obj)} {s : Shared}
    {Q : Flow → Shared → Prop} {E : Value → Shared → Prop} {o1 o2 o3 o4 o5 o6 o7 o8 : Obj} {objs : List (Addr × Obj)}
    (B : Below A₀ base [] h₀) (X : (hd.heap_39 w.params).In h₀) (T : Top p loose mean mg mb h₀) (hE : PassesOwn (MM w) (lawA dp un gd L fa ccd) (lawEnv L fa ccd) E) (F : Fr h₀ L s.heap m0) (N : News h₀ L s.heap ((L + 1, o1) :: (L + 2, o2) :: (L + 3, o3) :: (L + 4, o4) :: (L + 5, o5) :: (L + 6, o6) :: (L + 7, o7) :: (L + 8, o8) :: objs)) (hlo : ∀ q ∈ objs, (L + 8 : Nat) < q.1) (d6 : o6.data = .cell none)
    (hret : ∀ Co o6' hF tk, Fr h₀ L hF m0 → News h₀ L hF ((L + 1, o1) :: (L + 2, o2) :: (L + 3, o3) :: (L + 4, o4) :: (L + 5, o5) :: (L + 6, o6') :: (L + 7, o7) :: (L + 8, o8) :: (Co, listOf #[] 0) :: objs) → o6'.data = .cell (some (.ref Co)) → (L + 8 : Nat) < Co → (∀ q ∈ objs, q.1 < Co) → Q .next { s with heap := hF, toks := tk }) :
    wpAny (MM w) (lawA dp un gd L fa ccd) (exec (st 15) (lawEnv L fa ccd)) Q E s := by
  k_with_none
  k_with "my store" => (refine stop ?_)
  conv in st 15 => whnf
  k_steps
  dsimp only [Stop]
  rename_i Co h1 F1 N1 lt1
  have hA := kst_ltOf (d := Co) (l := (L + 1, o1) :: (L + 2, o2) :: (L + 3, o3) :: (L + 4, o4) :: (L + 5, o5) :: (L + 6, o6) :: (L + 7, o7) :: (L + 8, o8) :: objs) lt1
  have hlo' : ∀ q ∈ (Co, listOf #[] 0) :: objs, (L + 8 : Nat) < q.1 := fun q hq => by
    rcases List.mem_cons.mp hq with rfl | hq
    · exact hA (L + 8, o8) (by kcf_m)
    · exact hlo q hq
  have N2 : News h₀ L h1 ((L + 1, o1) :: (L + 2, o2) :: (L + 3, o3) :: (L + 4, o4) :: (L + 5, o5) :: (L + 6, o6) :: (L + 7, o7) :: (L + 8, o8) :: (Co, listOf #[] 0) :: objs) := news_sub N1 (by kcf_all)
  refine storeX_C F1 N2 rfl (upd6 hlo') d6 (fun hF o' FF NF d' => ?_) rfl rfl
  exact hret Co o' hF _ FF NF d' (hA (L + 8, o8) (by kcf_m)) fun q hq => hA q (.tail _ (.tail _ (.tail _ (.tail _ (.tail _ (.tail _ (.tail _ (.tail _ hq))))))))

theorem t16a {w : World} {p : Program} {loose : List Str} {mean : ExcName → Option Value} {mg mb : Str → Option Value} {dp un : Nat} {gd : Option (List Code)} {fa : Addr} {ccd : Value} {A₀ : Around} {base h₀ : Heap} {L : Addr} {m0 : Str → Option Value} {rest : List (Addr × Obj)} {s : Shared}
    {Q : Flow → Shared → Prop} {E : Value → Shared → Prop} {o1 o2 o3 o4 o5 o6 o7 o8 : Obj} {objs : List (Addr × Obj)} {a0 a1 a2 a3 a4 a5 : Int} {t0 t1 t2 t3 t4 t5 : Tok} {O1 Or Fl : Addr} {b0 b1 b2 : Int} {u0 u1 u2 : Tok} {fv : List Value} {kf : Nat}
    (B : Below A₀ base [] h₀) (X : (hd.heap_39 w.params).In h₀) (T : Top p loose mean mg mb h₀) (hE : PassesOwn (MM w) (lawA dp un gd L fa ccd) (lawEnv L fa ccd) E) (F : Fr h₀ L s.heap m0) (N : News h₀ L s.heap ((L + 1, o1) :: (L + 2, o2) :: (L + 3, o3) :: (L + 4, o4) :: (L + 5, o5) :: (L + 6, o6) :: (L + 7, o7) :: (L + 8, o8) :: (O1, listOf #[.int a0 t0, .int a2 t2, .int a4 t4] 0) :: (Or, listOf #[.int b0 u0, .int b1 u1, .int b2 u2] 0) :: (Fl, listOf fv.toArray kf) :: objs))
    (hdp : dp + 5 < recursionLimit) (hun : un + 64 < cLine) (d1 : o1.data = .cell (some (.ref O1))) (d5 : o5.data = .cell (some (.ref Fl))) (d7 : o7.data = .cell (some (.ref Or)))
    (hoff : ∀ q ∈ (L + 1, o1) :: (L + 2, o2) :: (L + 3, o3) :: (L + 4, o4) :: (L + 5, o5) :: (L + 6, o6) :: (L + 7, o7) :: (L + 8, o8) :: (O1, listOf #[.int a0 t0, .int a2 t2, .int a4 t4] 0) :: (Or, listOf #[.int b0 u0, .int b1 u1, .int b2 u2] 0) :: objs, q.1 ≠ Fl) (hfl : fv.length ≤ 100)
    (hret : ∀ Nw ys hF tk, IntsAre ys (flowOf [a0, a2, a4] [b0, b1, b2]) → Fr h₀ L hF m0 → News h₀ L hF ((L + 1, o1) :: (L + 2, o2) :: (L + 3, o3) :: (L + 4, o4) :: (L + 5, o5) :: (L + 6, o6) :: (L + 7, o7) :: (L + 8, o8) :: (Nw, listOf ys.toArray ys.length) :: (O1, listOf #[.int a0 t0, .int a2 t2, .int a4 t4] 0) :: (Or, listOf #[.int b0 u0, .int b1 u1, .int b2 u2] 0) :: (Fl, listOf (fv ++ [Value.ref Nw]).toArray (kf + 1)) :: objs) →
      (∀ q ∈ (L + 1, o1) :: (L + 2, o2) :: (L + 3, o3) :: (L + 4, o4) :: (L + 5, o5) :: (L + 6, o6) :: (L + 7, o7) :: (L + 8, o8) :: (O1, listOf #[.int a0 t0, .int a2 t2, .int a4 t4] 0) :: (Or, listOf #[.int b0 u0, .int b1 u1, .int b2 u2] 0) :: (Fl, listOf fv.toArray kf) :: objs, q.1 < Nw) → Q .next { s with heap := hF, toks := tk }) :
    wpAny (MM w) (lawA dp un gd L fa ccd) (exec (lp 0) (lawEnv L fa ccd)) Q E s := by
  k_with_none
  k_with "my lcomp" => (refine stop ?_)
  k_with "my postv" => (refine stop ?_)
  conv in lp 0 => whnf
  k_steps
  dsimp only [Stop]
  refine ListComp_C (h₀ := h₀) (L := L) (m := m0) (news := (L + 1, o1) :: (L + 2, o2) :: (L + 3, o3) :: (L + 4, o4) :: (L + 5, o5) :: (L + 6, o6) :: (L + 7, o7) :: (L + 8, o8) :: (O1, listOf #[.int a0 t0, .int a2 t2, .int a4 t4] 0) :: (Or, listOf #[.int b0 u0, .int b1 u1, .int b2 u2] 0) :: (Fl, listOf fv.toArray kf) :: objs) (fun k => flowAt [a0, a2, a4] [b0, b1, b2] (k : Int)) (by with_unfolding_all rfl) (fun _ => rfl) (fun _ => rfl) (by rfl) (by decide) (by rfl) ?_
  intro KC kC
  k_steps
  dsimp only [Stop]
  rename_i h1 tk1 tr ur vr hr F1 N1 hk1
  refine kC _ _ 13 _ _ _ rfl F1 N1 hr (by decide) (by decide) (by decide) ?_ ?_
  · intro k t I oI C oC G oG D ys h tk E' K' kK hk dG FT NT
    clear kC
    clear F1 N1 hk1 hr
    k_with "my lcomp" => (k_dflt (refine LCg.ListComp_U (F₀ := by k_asm) (by with_unfolding_all rfl) (by decide) (by rfl) (by decide) (by rfl) ?_))
    k_with "my src" => (refine stop ?_)
    k_steps
    dsimp only [Stop]
    rename_i h2 tk2 tr2 ur2 vr2 hr2 F2 N2 hk2
    refine LCg.CompSrc.range (n := 3) rfl F2 N2 hr2 (by decide) (by decide) (by rw [sizeLine_eq]; decide) ?_
    intro g
    refine kcf_range (fun i => over (k : Int) ([a0, a2, a4].getD i.toNat 0) ([b0, b1, b2].getD i.toNat 0)) (fun i ti I2 oI2 C2 oC2 D2 m₂ ys2 h3 tk3 E2 hlo hhi hC2 hx2 F3 N3 off ne mk => ?_) ?_
    · clear F2 N2 hk2 hr2
      have hi' : i = 0 ∨ i = 1 ∨ i = 2 := by omega
      k_with "my call" => ((k_dflt refine' over_call (dp := dp) (un := un) (by k_asm) (by k_asm) (by k_asm) (by k_asm) rfl (by k_asm) (by omega) (by omega) ?_); intro hO tO tv FO NO)
      k_with "my sub" => (first
        | (k_dflt refine' c_item (vs := [.int a0 t0, .int a2 t2, .int a4 t4]) (n := 0) (by k_asm) (by kcf_m) (by decide) (by decide) rfl ?_)
        | (k_dflt refine' c_item (vs := [.int b0 u0, .int b1 u1, .int b2 u2]) (n := 0) (by k_asm) (by kcf_m) (by decide) (by decide) rfl ?_))
      rcases hi' with rfl | rfl | rfl
      · k_steps
        exact kcf_el rfl rfl rfl
      · k_steps
        exact kcf_el rfl rfl rfl
      · k_steps
        exact kcf_el rfl rfl rfl
    show ∀ ys, _ → _
    intro ys2 hys2 D2 hF2 tk2' FF2 NF2 off2
    clear F2 N2 hk2 hr2
    k_steps
    dsimp only [Stop]
    rename_i h5 tk5 t5 F5 N5
    exact kK h5 tk5 t5 F5 (news_sub N5 (by kcf_all))
  · intro D ys hF tk hys FF NF hlt
    clear F1 N1 hk1 hr
    k_with "my append" => (refine stop ?_)
    k_steps
    dsimp only [Stop]
    have NA : News h₀ L hF ((Fl, listOf fv.toArray kf) :: (D, listOf ys.toArray ys.length) :: (L + 1, o1) :: (L + 2, o2) :: (L + 3, o3) :: (L + 4, o4) :: (L + 5, o5) :: (L + 6, o6) :: (L + 7, o7) :: (L + 8, o8) :: (O1, listOf #[.int a0 t0, .int a2 t2, .int a4 t4] 0) :: (Or, listOf #[.int b0 u0, .int b1 u1, .int b2 u2] 0) :: objs) := news_sub NF (by kcf_all)
    refine c_append FF NA (.head fun q hq => ?_) (by omega) fun hA FA NA' => ?_
    · rcases List.mem_cons.mp hq with rfl | hq
      · exact Nat.ne_of_gt (hlt (Fl, listOf fv.toArray kf) (by kcf_m))
      · exact hoff q hq
    exact hret D ys hA _ hys FA (news_sub NA' (by kcf_all)) hlt

theorem t16b {w : World} {p : Program} {loose : List Str} {mean : ExcName → Option Value} {mg mb : Str → Option Value} {dp un : Nat} {gd : Option (List Code)} {fa : Addr} {ccd : Value} {A₀ : Around} {base h₀ : Heap} {L : Addr} {m0 : Str → Option Value} {rest : List (Addr × Obj)} {s : Shared}
    {Q : Flow → Shared → Prop} {E : Value → Shared → Prop} {o1 o2 o3 o4 o5 o6 o7 o8 : Obj} {objs : List (Addr × Obj)} {a0 a1 a2 a3 a4 a5 : Int} {t0 t1 t2 t3 t4 t5 : Tok} {O1 Or Co : Addr} {b0 b1 b2 : Int} {u0 u1 u2 : Tok} {cv : List Value} {kc : Nat}
    (B : Below A₀ base [] h₀) (X : (hd.heap_39 w.params).In h₀) (T : Top p loose mean mg mb h₀) (hE : PassesOwn (MM w) (lawA dp un gd L fa ccd) (lawEnv L fa ccd) E) (F : Fr h₀ L s.heap m0) (N : News h₀ L s.heap ((L + 1, o1) :: (L + 2, o2) :: (L + 3, o3) :: (L + 4, o4) :: (L + 5, o5) :: (L + 6, o6) :: (L + 7, o7) :: (L + 8, o8) :: (O1, listOf #[.int a0 t0, .int a2 t2, .int a4 t4] 0) :: (Or, listOf #[.int b0 u0, .int b1 u1, .int b2 u2] 0) :: (Co, listOf cv.toArray kc) :: objs))
    (hdp : dp + 5 < recursionLimit) (hun : un + 64 < cLine) (d1 : o1.data = .cell (some (.ref O1))) (d6 : o6.data = .cell (some (.ref Co))) (d7 : o7.data = .cell (some (.ref Or)))
    (hoff : ∀ q ∈ (L + 1, o1) :: (L + 2, o2) :: (L + 3, o3) :: (L + 4, o4) :: (L + 5, o5) :: (L + 6, o6) :: (L + 7, o7) :: (L + 8, o8) :: (O1, listOf #[.int a0 t0, .int a2 t2, .int a4 t4] 0) :: (Or, listOf #[.int b0 u0, .int b1 u1, .int b2 u2] 0) :: objs, q.1 ≠ Co) (hfl : cv.length ≤ 100)
    (hret : ∀ tv hF tk, Fr h₀ L hF m0 → News h₀ L hF ((L + 1, o1) :: (L + 2, o2) :: (L + 3, o3) :: (L + 4, o4) :: (L + 5, o5) :: (L + 6, o6) :: (L + 7, o7) :: (L + 8, o8) :: (O1, listOf #[.int a0 t0, .int a2 t2, .int a4 t4] 0) :: (Or, listOf #[.int b0 u0, .int b1 u1, .int b2 u2] 0) :: (Co, listOf (cv ++ [Value.int (costOf [a0, a2, a4] [b0, b1, b2]) tv]).toArray (kc + 1)) :: objs) → Q .next { s with heap := hF, toks := tk }) :
    wpAny (MM w) (lawA dp un gd L fa ccd) (exec (lp 1) (lawEnv L fa ccd)) Q E s := by
  k_with_none
  k_with "my lcomp" => (k_dflt (refine LCg.ListComp_U (F₀ := by k_asm) (by with_unfolding_all rfl) (by decide) (by rfl) (by decide) (by rfl) ?_))
  k_with "my src" => (refine stop ?_)
  conv in lp 1 => whnf
  k_steps
  dsimp only [Stop]
  rename_i h2 tk2 tr2 ur2 vr2 hr2 F2 N2 hk2
  refine LCg.CompSrc.range (n := 3) rfl F2 N2 hr2 (by decide) (by decide) (by rw [sizeLine_eq]; decide) ?_
  intro g
  refine kcf_range (fun i => stepMin ([a0, a2, a4].getD i.toNat 0) ([b0, b1, b2].getD i.toNat 0)) (fun i ti I2 oI2 C2 oC2 D2 m₂ ys2 h3 tk3 E2 hlo hhi hC2 hx2 F3 N3 off ne mk => ?_) ?_
  · clear F2 N2 hk2 hr2
    have hi' : i = 0 ∨ i = 1 ∨ i = 2 := by omega
    k_with "my sub" => (first
      | (k_dflt refine' c_item (vs := [.int a0 t0, .int a2 t2, .int a4 t4]) (n := 0) (by k_asm) (by kcf_m) (by decide) (by decide) rfl ?_)
      | (k_dflt refine' c_item (vs := [.int b0 u0, .int b1 u1, .int b2 u2]) (n := 0) (by k_asm) (by kcf_m) (by decide) (by decide) rfl ?_))
    rcases hi' with rfl | rfl | rfl
    · k_steps
      exact kcf_el rfl rfl rfl
    · k_steps
      exact kcf_el rfl rfl rfl
    · k_steps
      exact kcf_el rfl rfl rfl
  show ∀ ys, _ → _
  intro ys2 hys2 D2 hF2 tk2' FF2 NF2 off2
  clear F2 N2 hk2 hr2
  k_with "my append" => (refine stop ?_)
  k_steps
  dsimp only [Stop]
  rename_i h5 tk5 t5 F5 N5
  have NA : News h₀ L h5 ((Co, listOf cv.toArray kc) :: (L + 1, o1) :: (L + 2, o2) :: (L + 3, o3) :: (L + 4, o4) :: (L + 5, o5) :: (L + 6, o6) :: (L + 7, o7) :: (L + 8, o8) :: (O1, listOf #[.int a0 t0, .int a2 t2, .int a4 t4] 0) :: (Or, listOf #[.int b0 u0, .int b1 u1, .int b2 u2] 0) :: objs) := news_sub N5 (by kcf_all)
  exact c_append F5 NA (.head hoff) (by omega) fun hA FA NA' => hret _ hA _ FA (news_sub NA' (by kcf_all))

theorem s16 {w : World} {p : Program} {loose : List Str} {mean : ExcName → Option Value} {mg mb : Str → Option Value} {dp un : Nat} {gd : Option (List Code)} {fa : Addr} {ccd : Value} {A₀ : Around} {base h₀ : Heap} {L : Addr} {m0 : Str → Option Value} {rest : List (Addr × Obj)} {s : Shared}
    {Q : Flow → Shared → Prop} {E : Value → Shared → Prop} {o1 o2 o3 o4 o5 o6 o7 o8 : Obj} {objs : List (Addr × Obj)} {a0 a1 a2 a3 a4 a5 : Int} {t0 t1 t2 t3 t4 t5 : Tok} {O1 O2 Fl Co : Addr}
    (B : Below A₀ base [] h₀) (X : (hd.heap_39 w.params).In h₀) (T : Top p loose mean mg mb h₀) (hE : PassesOwn (MM w) (lawA dp un gd L fa ccd) (lawEnv L fa ccd) E) (F : Fr h₀ L s.heap m0) (N : News h₀ L s.heap ((L + 1, o1) :: (L + 2, o2) :: (L + 3, o3) :: (L + 4, o4) :: (L + 5, o5) :: (L + 6, o6) :: (L + 7, o7) :: (L + 8, o8) :: (Fl, listOf #[] 0) :: (Co, listOf #[] 0) :: (O1, listOf #[.int a0 t0, .int a2 t2, .int a4 t4] 0) :: (O2, listOf #[.int a1 t1, .int a3 t3, .int a5 t5] 0) :: objs))
    (hlo : ∀ q ∈ (O1, listOf #[.int a0 t0, .int a2 t2, .int a4 t4] 0) :: (O2, listOf #[.int a1 t1, .int a3 t3, .int a5 t5] 0) :: objs, (L + 8 : Nat) < q.1) (hFl : ∀ q ∈ (O1, listOf #[.int a0 t0, .int a2 t2, .int a4 t4] 0) :: (O2, listOf #[.int a1 t1, .int a3 t3, .int a5 t5] 0) :: objs, q.1 < Fl) (hCo : @LT.lt Nat instLTNat Fl Co)
    (hdp : dp + 9 < recursionLimit) (hun : un + 200 < cLine) (d1 : o1.data = .cell (some (.ref O1))) (d2 : o2.data = .cell (some (.ref O2))) (d5 : o5.data = .cell (some (.ref Fl))) (d6 : o6.data = .cell (some (.ref Co))) (d7 : o7.data = .cell none)
    (hret : ∀ fl nf cv nc o7' hF tk, fl.length = 6 → FlowsAre [a0, a2, a4] (ords a1 a3 a5) fl → IntsAre cv ((ords a1 a3 a5).map (costOf [a0, a2, a4])) → Fr h₀ L hF m0 →
      News h₀ L hF ((L + 1, o1) :: (L + 2, o2) :: (L + 3, o3) :: (L + 4, o4) :: (L + 5, o5) :: (L + 6, o6) :: (L + 7, o7') :: (L + 8, o8) :: (Fl, listOf (frefs fl).toArray nf) :: (Co, listOf cv.toArray nc) :: (fobs fl ++ (O1, listOf #[.int a0 t0, .int a2 t2, .int a4 t4] 0) :: (O2, listOf #[.int a1 t1, .int a3 t3, .int a5 t5] 0) :: objs)) → (∀ f ∈ fl, (L + 8 : Nat) < f.a) → Q .next { s with heap := hF, toks := tk }) :
    wpAny (MM w) (lawA dp un gd L fa ccd) (exec (st 16) (lawEnv L fa ccd)) Q E s := by
  k_with_none
  have hFlo : (L + 8 : Nat) < Fl := Nat.lt_trans (hlo (O1, listOf #[.int a0 t0, .int a2 t2, .int a4 t4] 0) (.head _)) (hFl (O1, listOf #[.int a0 t0, .int a2 t2, .int a4 t4] 0) (.head _))
  k_with "my for" => (k_dflt refine' for_start ?_)
  k_with "my call" => (refine stop ?_)
  conv in st 16 => whnf
  k_steps
  dsimp only [Stop]
  refine ord_gen 3 (P := O2) (vs := [.int a1 t1, .int a3 t3, .int a5 t5]) (ns := [a1, a3, a5]) (np := 0) (rest := (L + 1, o1) :: (L + 2, o2) :: (L + 3, o3) :: (L + 4, o4) :: (L + 5, o5) :: (L + 6, o6) :: (L + 7, o7) :: (L + 8, o8) :: (Fl, listOf #[] 0) :: (Co, listOf #[] 0) :: (O1, listOf #[.int a0 t0, .int a2 t2, .int a4 t4] 0) :: objs) B F X T rfl (news_sub N (by kcf_all)) (.cons _ _ (.cons _ _ (.cons _ _ .nil))) rfl (by decide) (by omega) (by omega) ?_
  intro R ls nR hR tkR hls FR NR ltR lf
  clear F N
  refine iter_list (l := R) (vs := lrefs ls) (n := nR) FR NR (.head _) ?_
  intro I hI oI0 FI NI ltI liI
  clear FR NR
  have ltI' := kst_ltOf ltI
  clear ltI
  have hll : (lrefs ls).length = 6 := by rw [lrefs, List.length_map]; exact (List.length_map (as := ls) LO.vs).symm.trans ((congrArg List.length hls).trans (perms_count 3 _))
  obtain ⟨RL, hRL⟩ : ∃ RL : List (Addr × Obj), RL = (R, listOf (lrefs ls).toArray nR) :: (lobs ls ++ (O2, listOf #[.int a1 t1, .int a3 t3, .int a5 t5] 0) :: objs) := ⟨_, rfl⟩
  have hlf : ∀ q ∈ RL, q ∈ (R, listOf (lrefs ls).toArray nR) :: (lobs ls ++ (O2, listOf #[.int a1 t1, .int a3 t3, .int a5 t5] 0) :: (L + 1, o1) :: (L + 2, o2) :: (L + 3, o3) :: (L + 4, o4) :: (L + 5, o5) :: (L + 6, o6) :: (L + 7, o7) :: (L + 8, o8) :: (Fl, listOf #[] 0) :: (Co, listOf #[] 0) :: (O1, listOf #[.int a0 t0, .int a2 t2, .int a4 t4] 0) :: objs) := by
    subst hRL
    intro q hq
    rcases List.mem_cons.mp hq with rfl | hq
    · exact .head _
    rcases List.mem_append.mp hq with hq | hq
    · exact .tail _ (List.mem_append_left _ hq)
    rcases List.mem_cons.mp hq with rfl | hq
    · exact .tail _ (List.mem_append_right _ (.head _))
    · exact .tail _ (List.mem_append_right _ (.tail _ (.tail _ (.tail _ (.tail _ (.tail _ (.tail _ (.tail _ (.tail _ (.tail _ (.tail _ (.tail _ (.tail _ hq)))))))))))))
  have hcl : ∀ q ∈ (L + 1, o1) :: (L + 2, o2) :: (L + 3, o3) :: (L + 4, o4) :: (L + 5, o5) :: (L + 6, o6) :: (L + 7, o7) :: (L + 8, o8) :: (Fl, listOf #[] 0) :: (Co, listOf #[] 0) :: (O1, listOf #[.int a0 t0, .int a2 t2, .int a4 t4] 0) :: [], q ∈ (R, listOf (lrefs ls).toArray nR) :: (lobs ls ++ (O2, listOf #[.int a1 t1, .int a3 t3, .int a5 t5] 0) :: (L + 1, o1) :: (L + 2, o2) :: (L + 3, o3) :: (L + 4, o4) :: (L + 5, o5) :: (L + 6, o6) :: (L + 7, o7) :: (L + 8, o8) :: (Fl, listOf #[] 0) :: (Co, listOf #[] 0) :: (O1, listOf #[.int a0 t0, .int a2 t2, .int a4 t4] 0) :: objs) :=
    fun q hq => .tail _ (List.mem_append_right _ (.tail _ (List.mem_append_left (as := (L + 1, o1) :: (L + 2, o2) :: (L + 3, o3) :: (L + 4, o4) :: (L + 5, o5) :: (L + 6, o6) :: (L + 7, o7) :: (L + 8, o8) :: (Fl, listOf #[] 0) :: (Co, listOf #[] 0) :: (O1, listOf #[.int a0 t0, .int a2 t2, .int a4 t4] 0) :: []) objs hq)))
  have NI1 : News h₀ L hI ((I, oI0) :: (L + 1, o1) :: (L + 2, o2) :: (L + 3, o3) :: (L + 4, o4) :: (L + 5, o5) :: (L + 6, o6) :: (L + 7, o7) :: (L + 8, o8) :: (Fl, listOf #[] 0) :: (Co, listOf #[] 0) :: (O1, listOf #[.int a0 t0, .int a2 t2, .int a4 t4] 0) :: RL) := fun q hq => NI q (by
    rcases List.mem_cons.mp hq with rfl | hq
    · exact .head _
    rcases List.mem_append.mp (show q ∈ ((L + 1, o1) :: (L + 2, o2) :: (L + 3, o3) :: (L + 4, o4) :: (L + 5, o5) :: (L + 6, o6) :: (L + 7, o7) :: (L + 8, o8) :: (Fl, listOf #[] 0) :: (Co, listOf #[] 0) :: (O1, listOf #[.int a0 t0, .int a2 t2, .int a4 t4] 0) :: []) ++ RL from hq) with hq | hq
    · exact .tail _ (hcl q hq)
    · exact .tail _ (hlf q hq))
  have hRm : (R, listOf (lrefs ls).toArray nR) ∈ RL := by subst hRL; exact .head _
  have hsub : ∀ q ∈ (O2, listOf #[.int a1 t1, .int a3 t3, .int a5 t5] 0) :: objs, q ∈ RL := by subst hRL; exact fun q hq => .tail _ (List.mem_append_right _ hq)
  have hlist : ∀ (k : Nat) (v : Value), (lrefs ls)[k]? = some v → ∀ G : Value → Prop, (∀ (r : Addr) (b0 b1 b2 : Int) (u0 u1 u2 : Tok), (r, listOf #[.int b0 u0, .int b1 u1, .int b2 u2] 0) ∈ RL → (ords a1 a3 a5)[k]? = some [b0, b1, b2] → G (Value.ref r)) → G v := by
    subst hRL
    intro k v hv G kG
    have hk : k < 6 := hll ▸ (List.getElem?_eq_some_iff.mp hv).1
    obtain ⟨f, hf, rfl⟩ := lrefs_get hv
    have hm := List.mem_append_left ((O2, listOf #[.int a1 t1, .int a3 t3, .int a5 t5] 0) :: objs) (lobs_of (List.mem_of_getElem? hf))
    have e : (permsV 3 [.int a1 t1, .int a3 t3, .int a5 t5])[k]? = some f.vs := by rw [← hls, List.getElem?_map, hf]; rfl
    clear hf hv
    obtain ⟨fa, fv⟩ := f
    match k, hk, e with
    | 0, _, e => cases (Option.some.inj e); exact kG fa _ _ _ _ _ _ (.tail _ hm) rfl
    | 1, _, e => cases (Option.some.inj e); exact kG fa _ _ _ _ _ _ (.tail _ hm) rfl
    | 2, _, e => cases (Option.some.inj e); exact kG fa _ _ _ _ _ _ (.tail _ hm) rfl
    | 3, _, e => cases (Option.some.inj e); exact kG fa _ _ _ _ _ _ (.tail _ hm) rfl
    | 4, _, e => cases (Option.some.inj e); exact kG fa _ _ _ _ _ _ (.tail _ hm) rfl
    | 5, _, e => cases (Option.some.inj e); exact kG fa _ _ _ _ _ _ (.tail _ hm) rfl
  have hIl : ∀ q ∈ RL, q.1 < I := fun q hq => ltI' q (hlf q hq)
  have hne : ∀ q ∈ RL, q.1 ≠ Fl ∧ q.1 ≠ Co ∧ (L + 8 : Nat) < q.1 := by
    have mF : ∀ {l : List (Addr × Obj)}, (Fl, listOf #[] 0) ∈ (O2, listOf #[.int a1 t1, .int a3 t3, .int a5 t5] 0) :: (L + 1, o1) :: (L + 2, o2) :: (L + 3, o3) :: (L + 4, o4) :: (L + 5, o5) :: (L + 6, o6) :: (L + 7, o7) :: (L + 8, o8) :: (Fl, listOf #[] 0) :: (Co, listOf #[] 0) :: l := by kcf_m
    have mC : ∀ {l : List (Addr × Obj)}, (Co, listOf #[] 0) ∈ (O2, listOf #[.int a1 t1, .int a3 t3, .int a5 t5] 0) :: (L + 1, o1) :: (L + 2, o2) :: (L + 3, o3) :: (L + 4, o4) :: (L + 5, o5) :: (L + 6, o6) :: (L + 7, o7) :: (L + 8, o8) :: (Fl, listOf #[] 0) :: (Co, listOf #[] 0) :: l := by kcf_m
    have m8 : ∀ {l : List (Addr × Obj)}, (L + 8, o8) ∈ (O2, listOf #[.int a1 t1, .int a3 t3, .int a5 t5] 0) :: (L + 1, o1) :: (L + 2, o2) :: (L + 3, o3) :: (L + 4, o4) :: (L + 5, o5) :: (L + 6, o6) :: (L + 7, o7) :: (L + 8, o8) :: l := by kcf_m
    subst hRL
    intro q hq
    rcases List.mem_cons.mp hq with rfl | hq
    · exact ⟨Nat.ne_of_gt (ltR _ mF), Nat.ne_of_gt (ltR _ mC), ltR _ m8⟩
    rcases List.mem_append.mp hq with hq | hq
    · obtain ⟨f, hf, rfl⟩ := lobs_mem hq
      exact ⟨Nat.ne_of_gt ((lf f hf).1 _ mF), Nat.ne_of_gt ((lf f hf).1 _ mC), (lf f hf).1 _ m8⟩
    · have h1 := hFl q (.tail _ hq)
      exact ⟨Nat.ne_of_lt h1, Nat.ne_of_lt (Nat.lt_trans h1 hCo), hlo q (.tail _ hq)⟩
  have hIc : ∀ q ∈ (L + 1, o1) :: (L + 2, o2) :: (L + 3, o3) :: (L + 4, o4) :: (L + 5, o5) :: (L + 6, o6) :: (L + 7, o7) :: (L + 8, o8) :: (Fl, listOf #[] 0) :: (Co, listOf #[] 0) :: (O1, listOf #[.int a0 t0, .int a2 t2, .int a4 t4] 0) :: [], q.1 < I := fun q hq => ltI' q (hcl q hq)
  have hAI : AllLt I ((L + 1, o1) :: (L + 2, o2) :: (L + 3, o3) :: (L + 4, o4) :: (L + 5, o5) :: (L + 6, o6) :: (L + 7, o7) :: (L + 8, o8) :: (Fl, listOf #[] 0) :: (Co, listOf #[] 0) :: (O1, listOf #[.int a0 t0, .int a2 t2, .int a4 t4] 0) :: []) := allLt_of hIc
  clear hRL NI ltI' ltR lf hlf hcl hls
  refine ksf_list (σ := Fst) (l := R) (vs := lrefs ls) (n := nR) (fun c => (L + 1, o1) :: (L + 2, o2) :: (L + 3, o3) :: (L + 4, o4) :: (L + 5, o5) :: (L + 6, o6) :: (L + 7, c.o7) :: (L + 8, o8) :: (Fl, listOf (frefs c.fl).toArray c.nf) :: (Co, listOf c.cv.toArray c.nc) :: (fobs c.fl ++ (O1, listOf #[.int a0 t0, .int a2 t2, .int a4 t4] 0) :: RL)) (fun _ => []) []
    (fun k c => c.fl.length = k ∧ FlowsAre [a0, a2, a4] (ords a1 a3 a5) c.fl ∧ IntsAre c.cv (((ords a1 a3 a5).take k).map (costOf [a0, a2, a4])) ∧ (∃ v, c.o7.data = .cell v) ∧ ∀ f ∈ c.fl, @LT.lt Nat instLTNat I f.a) ⟨[], 0, [], 0, o7⟩ 0 rfl FI NI1 liI (fun p hp => by cases hp)
    ⟨rfl, fun j f h => by simp at h, .nil, ⟨_, d7⟩, fun f hf => by cases hf⟩ (Nat.zero_le _) ?hoff ?turn ?done hE (fun _ => rfl)
  case hoff =>
    rintro k c ⟨_, _, _, _, hfI⟩
    refine ⟨fun p hp => ?_, .tail _ (.tail _ (.tail _ (.tail _ (.tail _ (.tail _ (.tail _ (.tail _ (.tail _ (.tail _ (List.mem_append_right _ (.tail _ hRm)))))))))))⟩
    rcases List.mem_cons.mp hp with rfl | hp
    · exact Nat.ne_of_lt hAI.1
    rcases List.mem_cons.mp hp with rfl | hp
    · exact Nat.ne_of_lt hAI.2.1
    rcases List.mem_cons.mp hp with rfl | hp
    · exact Nat.ne_of_lt hAI.2.2.1
    rcases List.mem_cons.mp hp with rfl | hp
    · exact Nat.ne_of_lt hAI.2.2.2.1
    rcases List.mem_cons.mp hp with rfl | hp
    · exact Nat.ne_of_lt hAI.2.2.2.2.1
    rcases List.mem_cons.mp hp with rfl | hp
    · exact Nat.ne_of_lt hAI.2.2.2.2.2.1
    rcases List.mem_cons.mp hp with rfl | hp
    · exact Nat.ne_of_lt hAI.2.2.2.2.2.2.1
    rcases List.mem_cons.mp hp with rfl | hp
    · exact Nat.ne_of_lt hAI.2.2.2.2.2.2.2.1
    rcases List.mem_cons.mp hp with rfl | hp
    · exact Nat.ne_of_lt hAI.2.2.2.2.2.2.2.2.1
    rcases List.mem_cons.mp hp with rfl | hp
    · exact Nat.ne_of_lt hAI.2.2.2.2.2.2.2.2.2.1
    rcases List.mem_append.mp hp with hp | hp
    · obtain ⟨f, hf, rfl⟩ := fobs_mem hp
      exact Nat.ne_of_gt (hfI f hf)
    rcases List.mem_cons.mp hp with rfl | hp
    · exact Nat.ne_of_lt hAI.2.2.2.2.2.2.2.2.2.2.1
    · exact Nat.ne_of_lt (hIl p hp)
  case done =>
    rintro c u hF tk ⟨hc1, hc2, hc3, hc4, hc5⟩ kFr kNews
    obtain ⟨fl, nf, cv, nc, o7x⟩ := c
    have h8I : (L + 8 : Nat) < I := hAI.2.2.2.2.2.2.2.1
    dsimp only at hc1 hc2 hc3 hc5
    rw [hll] at hc1 hc3
    exact hret fl nf cv nc o7x hF tk hc1 hc2 hc3 kFr (news_sub kNews (by
      intro q hq
      iterate 10 (rcases List.mem_cons.mp hq with rfl | hq; (focus kcf_m))
      refine .tail _ (.tail _ (.tail _ (.tail _ (.tail _ (.tail _ (.tail _ (.tail _ (.tail _ (.tail _ ?_)))))))))
      rcases List.mem_append.mp hq with hq | hq
      · exact List.mem_append_left _ hq
      rcases List.mem_cons.mp hq with rfl | hq
      · exact List.mem_append_right _ (.head _)
      · exact List.mem_append_right _ (.tail _ (hsub q hq)))) fun f hf => Nat.lt_trans h8I (hc5 f hf)
  case turn =>
    intro k v c u h tk oI KR kR hv hc kFr kNews liN
    have hklt : k < 6 := hll ▸ (List.getElem?_eq_some_iff.mp hv).1
    apply hlist k v hv
    clear hv v
    intro r b0 b1 b2 u0 u1 u2 hrm hord
    obtain ⟨fl, nf, cv, nc, o7x⟩ := c
    obtain ⟨v7, d7'⟩ := hc.2.2.2.1
    have hc1 := hc.1
    have hc2 := hc.2.1
    have hc3 := hc.2.2.1
    have hc5 := hc.2.2.2.2
    clear hc
    dsimp only at hc1 hc2 hc3 d7' hc5 kNews
    have hlo7 : ∀ q ∈ (Fl, listOf (frefs fl).toArray nf) :: (Co, listOf cv.toArray nc) :: (fobs fl ++ (O1, listOf #[.int a0 t0, .int a2 t2, .int a4 t4] 0) :: RL), (L + 8 : Nat) < q.1 := by
      intro q hq
      rcases List.mem_cons.mp hq with rfl | hq
      · exact hFlo
      rcases List.mem_cons.mp hq with rfl | hq
      · exact Nat.lt_trans hFlo hCo
      rcases List.mem_append.mp hq with hq | hq
      · obtain ⟨f, hf, rfl⟩ := fobs_mem hq
        exact Nat.lt_trans hAI.2.2.2.2.2.2.2.1 (hc5 f hf)
      rcases List.mem_cons.mp hq with rfl | hq
      · exact hlo _ (.head _)
      · exact (hne q hq).2.2
    refine wpAny_assign_Name (storeX_C kFr kNews rfl (.tail (Nat.ne_of_gt hAI.2.2.2.2.2.2.1) (upd7 hlo7)) d7' (fun h3 o7n F3 N3 d7n => ?_) rfl rfl)
    have F3' : Fr h₀ L h3 m0 := F3
    clear kFr kNews F3
    have hfI : ∀ q ∈ fobs fl, q.1 ≠ Fl ∧ q.1 ≠ Co := fun q hq => by
      obtain ⟨f, hf, rfl⟩ := fobs_mem hq
      have h1 := hc5 f hf
      exact ⟨Nat.ne_of_gt (Nat.lt_trans hAI.2.2.2.2.2.2.2.2.1 h1), Nat.ne_of_gt (Nat.lt_trans hAI.2.2.2.2.2.2.2.2.2.1 h1)⟩
    have hO1 := hFl (O1, listOf #[.int a0 t0, .int a2 t2, .int a4 t4] 0) (.head _)
    have hIF : I ≠ Fl := Nat.ne_of_gt hAI.2.2.2.2.2.2.2.2.1
    have hIC : I ≠ Co := Nat.ne_of_gt hAI.2.2.2.2.2.2.2.2.2.1
    have hcvl := hc3.length
    rw [List.length_map, List.length_take] at hcvl
    refine wpAny_execs_cons ?_
    have hr3 : (r, listOf #[.int b0 u0, .int b1 u1, .int b2 u2] 0) ∈ (I, oI) :: (L + 1, o1) :: (L + 2, o2) :: (L + 3, o3) :: (L + 4, o4) :: (L + 5, o5) :: (L + 6, o6) :: (L + 7, o7n) :: (L + 8, o8) :: (Fl, listOf (frefs fl).toArray nf) :: (Co, listOf cv.toArray nc) :: (fobs fl ++ (O1, listOf #[.int a0 t0, .int a2 t2, .int a4 t4] 0) :: RL) := .tail _ (.tail _ (.tail _ (.tail _ (.tail _ (.tail _ (.tail _ (.tail _ (.tail _ (.tail _ (.tail _ (List.mem_append_right _ (.tail _ hrm))))))))))))
    have NA : News h₀ L h3 ((L + 1, o1) :: (L + 2, o2) :: (L + 3, o3) :: (L + 4, o4) :: (L + 5, o5) :: (L + 6, o6) :: (L + 7, o7n) :: (L + 8, o8) :: (O1, listOf #[.int a0 t0, .int a2 t2, .int a4 t4] 0) :: (r, listOf #[.int b0 u0, .int b1 u1, .int b2 u2] 0) :: (Fl, listOf (frefs fl).toArray nf) :: (I, oI) :: (Co, listOf cv.toArray nc) :: (fobs fl ++ RL)) := news_sub N3 (by kcf_all)
    have hcO : ∀ (D : Addr), (L + 8 : Nat) < D → (∀ q ∈ (O1, listOf #[.int a0 t0, .int a2 t2, .int a4 t4] 0) :: (r, listOf #[.int b0 u0, .int b1 u1, .int b2 u2] 0) :: [], q.1 ≠ D) → ∀ X : List (Addr × Obj), (∀ q ∈ X, q.1 ≠ D) → ∀ q ∈ (L + 1, o1) :: (L + 2, o2) :: (L + 3, o3) :: (L + 4, o4) :: (L + 5, o5) :: (L + 6, o6) :: (L + 7, o7n) :: (L + 8, o8) :: (O1, listOf #[.int a0 t0, .int a2 t2, .int a4 t4] 0) :: (r, listOf #[.int b0 u0, .int b1 u1, .int b2 u2] 0) :: X, q.1 ≠ D := fun D h8 h1 X hX => cells_off h8 (List.forall_mem_cons.mpr ⟨h1 _ (.head _), List.forall_mem_cons.mpr ⟨h1 _ (.tail _ (.head _)), hX⟩⟩)
    have hoF : ∀ q ∈ (O1, listOf #[.int a0 t0, .int a2 t2, .int a4 t4] 0) :: (r, listOf #[.int b0 u0, .int b1 u1, .int b2 u2] 0) :: [], q.1 ≠ Fl := List.forall_mem_cons.mpr ⟨Nat.ne_of_lt hO1, List.forall_mem_cons.mpr ⟨(hne _ hrm).1, List.forall_mem_nil _⟩⟩
    have hoC : ∀ q ∈ (O1, listOf #[.int a0 t0, .int a2 t2, .int a4 t4] 0) :: (r, listOf #[.int b0 u0, .int b1 u1, .int b2 u2] 0) :: [], q.1 ≠ Co := List.forall_mem_cons.mpr ⟨Nat.ne_of_lt (Nat.lt_trans hO1 hCo), List.forall_mem_cons.mpr ⟨(hne _ hrm).2.1, List.forall_mem_nil _⟩⟩
    clear N3 hr3
    refine t16a (rest := []) (a1 := a1) (a3 := a3) (a5 := a5) (t1 := t1) (t3 := t3) (t5 := t5) B X T hE F3' NA (by omega) (by omega) d1 d5 d7n (hcO Fl hFlo hoF _ (List.forall_mem_cons.mpr ⟨hIF, List.forall_mem_cons.mpr ⟨Nat.ne_of_gt hCo, List.forall_mem_append.mpr ⟨fun q hq => (hfI q hq).1, fun q hq => (hne q hq).1⟩⟩⟩)) (by unfold frefs; rw [List.length_map]; omega) ?_
    intro Nw ys h4 tk4 hys F4 N4 ltN
    clear NA F3'
    dsimp only
    refine wpAny_execs_cons ?_
    have hNC : Nw ≠ Co := Nat.ne_of_gt (ltN (Co, listOf cv.toArray nc) (by kcf_m))
    have hNI := ltN (I, oI) (by kcf_m)
    have NB : News h₀ L h4 ((L + 1, o1) :: (L + 2, o2) :: (L + 3, o3) :: (L + 4, o4) :: (L + 5, o5) :: (L + 6, o6) :: (L + 7, o7n) :: (L + 8, o8) :: (O1, listOf #[.int a0 t0, .int a2 t2, .int a4 t4] 0) :: (r, listOf #[.int b0 u0, .int b1 u1, .int b2 u2] 0) :: (Co, listOf cv.toArray nc) :: (Nw, listOf ys.toArray ys.length) :: (Fl, listOf (frefs fl ++ [Value.ref Nw]).toArray (nf + 1)) :: (I, oI) :: (fobs fl ++ RL)) := news_sub N4 (by kcf_all)
    clear N4
    refine t16b (rest := []) (a1 := a1) (a3 := a3) (a5 := a5) (t1 := t1) (t3 := t3) (t5 := t5) B X T hE F4 NB (by omega) (by omega) d1 d6 d7n (hcO Co (Nat.lt_trans hFlo hCo) hoC _ (List.forall_mem_cons.mpr ⟨hNC, List.forall_mem_cons.mpr ⟨Nat.ne_of_lt hCo, List.forall_mem_cons.mpr ⟨hIC, List.forall_mem_append.mpr ⟨fun q hq => (hfI q hq).2, fun q hq => (hne q hq).2.1⟩⟩⟩⟩)) (by omega) ?_
    intro tv h5 tk5 F5 N5
    clear NB F4
    dsimp only
    refine wpAny_execs_nil (post_to kR ?_)
    dsimp only [KsfPost]
    refine ksf_end ⟨fl ++ [⟨Nw, ys⟩], nf + 1, cv ++ [.int (costOf [a0, a2, a4] [b0, b1, b2]) tv], nc + 1, o7n⟩ F5 (news_sub N5 ?_) liN (fun p hp => by cases hp) (fun _ _ _ => rfl) ⟨by simp [hc1], hc2.snoc hc1 hord hys, costs_snoc hc3 hord, ⟨_, d7n⟩, ?_⟩
    · have e1 : frefs (fl ++ [⟨Nw, ys⟩]) = frefs fl ++ [Value.ref Nw] := by unfold frefs; rw [List.map_append]; rfl
      have e2 : fobs (fl ++ [⟨Nw, ys⟩]) = fobs fl ++ [(Nw, listOf ys.toArray ys.length)] := by unfold fobs; rw [List.map_append]; rfl
      dsimp only
      rw [e1, e2]
      kcf_all
    · intro f hf
      rcases List.mem_append.mp hf with hf | hf
      · exact hc5 f hf
      · rw [List.mem_singleton.mp hf]; exact hNI

theorem s17 {w : World} {p : Program} {loose : List Str} {mean : ExcName → Option Value} {mg mb : Str → Option Value} {dp un : Nat} {gd : Option (List Code)} {fa : Addr} {ccd : Value} {A₀ : Around} {base h₀ : Heap} {L : Addr} {m0 : Str → Option Value} {rest : List (Addr × Obj)} {s : Shared}
    {Q : Flow → Shared → Prop} {E : Value → Shared → Prop} {o1 o2 o3 o4 o5 o6 o7 o8 : Obj} {objs : List (Addr × Obj)} {Lv Md : Addr} {vs ds : List Value} {ns : List Int} {md : Int} {n n2 : Nat}
    (B : Below A₀ base [] h₀) (X : (hd.heap_39 w.params).In h₀) (T : Top p loose mean mg mb h₀) (hE : PassesOwn (MM w) (lawA dp un gd L fa ccd) (lawEnv L fa ccd) E) (F : Fr h₀ L s.heap (fun y => if y = Str.ofString "levels" then some (.ref Lv) else m0 y)) (N : News h₀ L s.heap ((L + 1, o1) :: (L + 2, o2) :: (L + 3, o3) :: (L + 4, o4) :: (L + 5, o5) :: (L + 6, o6) :: (L + 7, o7) :: (L + 8, o8) :: (Lv, listOf vs.toArray n) :: (Md, listOf ds.toArray n2) :: objs))
    (hlo : ∀ q ∈ (Lv, listOf vs.toArray n) :: (Md, listOf ds.toArray n2) :: objs, (L + 8 : Nat) < q.1) (d4 : o4.data = .cell (some (.ref Md))) (d8 : o8.data = .cell none) (hI : IntsAre vs ns) (h13 : ns.length = 13) (hId : IntsAre ds [md])
    (hret : ∀ Du ys o8' hF tk, IntsAre ys (ns.map fun x => x - md) → Fr h₀ L hF (fun y => if y = Str.ofString "levels" then some (.ref Lv) else m0 y) → News h₀ L hF ((L + 1, o1) :: (L + 2, o2) :: (L + 3, o3) :: (L + 4, o4) :: (L + 5, o5) :: (L + 6, o6) :: (L + 7, o7) :: (L + 8, o8') :: (Du, listOf ys.toArray ys.length) :: (Lv, listOf vs.toArray n) :: (Md, listOf ds.toArray n2) :: objs) → o8'.data = .cell (some (.ref Du)) → Q .next { s with heap := hF, toks := tk }) :
    wpAny (MM w) (lawA dp un gd L fa ccd) (exec (st 17) (lawEnv L fa ccd)) Q E s := by
  k_with_none
  obtain ⟨tm, rfl⟩ : ∃ tm, ds = [.int md tm] := by
    cases hId with
    | cons _ t r => cases r with | nil => exact ⟨t, rfl⟩
  k_with "my comp" => (refine wpAny_Assign_Name ?_)
  k_with "my lcomp" => (k_dflt (refine LCg.ListComp_U (F₀ := by k_asm) (by with_unfolding_all rfl) (by decide) (by rfl) (by decide) (by rfl) ?_))
  k_with "my src" => (refine stop ?_)
  k_with "my store" => (refine stop ?_)
  conv in st 17 => whnf
  k_steps
  dsimp only [Stop]
  refine LCg.CompSrc.ledger (its := vs.toArray) (k := n) rfl F N (by kcf_m) (by rw [List.size_toArray, hI.length, sizeLine_eq]; omega) ?_
  intro g
  refine kcf_list (fun x => x - md) hI (fun x tx Ix oIx C oC D m₂ ys h tk E' hx hC hmx F' N' off ne mk => ?_) ?_
  · clear F N
    k_with "my sub" => (k_dflt refine' c_item (vs := [.int md tm]) (n := n2) (by k_asm) (by kcf_m) (by decide) (by decide) rfl ?_)
    k_steps
  show ∀ ys, _ → _
  intro ys hys D hF tk FF NF off
  have hD8 : D ≠ L + 8 := (off1_mem off (L + 8, o8) (by kcf_m)).symm
  refine storeX_C FF NF rfl (.tail hD8 (upd8 hlo)) d8 (fun h3 o8n F3 N3 d8n => ?_) rfl rfl
  exact hret D ys o8n h3 _ hys F3 (news_sub N3 (by kcf_all)) d8n

theorem s18 {w : World} {p : Program} {loose : List Str} {mean : ExcName → Option Value} {mg mb : Str → Option Value} {dp un : Nat} {gd : Option (List Code)} {fa : Addr} {ccd : Value} {A₀ : Around} {base h₀ : Heap} {L : Addr} {m0 : Str → Option Value} {rest : List (Addr × Obj)} {s : Shared}
    {Q : Flow → Shared → Prop} {E : Value → Shared → Prop} {o1 o2 o3 o4 o5 o6 o7 o8 : Obj} {objs : List (Addr × Obj)} {Fl Co Du : Addr} {fl : List FO} {fns : List (List Int)} {cv dv : List Value} {cs du : List Int} {nf nc nd : Nat}
    (B : Below A₀ base [] h₀) (X : (hd.heap_39 w.params).In h₀) (T : Top p loose mean mg mb h₀) (hE : PassesOwn (MM w) (lawA dp un gd L fa ccd) (lawEnv L fa ccd) E) (F : Fr h₀ L s.heap m0) (N : News h₀ L s.heap ((L + 1, o1) :: (L + 2, o2) :: (L + 3, o3) :: (L + 4, o4) :: (L + 5, o5) :: (L + 6, o6) :: (L + 7, o7) :: (L + 8, o8) :: (Fl, listOf (frefs fl).toArray nf) :: (Co, listOf cv.toArray nc) :: (Du, listOf dv.toArray nd) :: (fobs fl ++ objs)))
    (hun : un + 200 < cLine) (d5 : o5.data = .cell (some (.ref Fl))) (d6 : o6.data = .cell (some (.ref Co))) (d8 : o8.data = .cell (some (.ref Du))) (hlf : fl.length = 6) (hfl : ∀ j f, fl[j]? = some f → IntsAre f.vs (fns.getD j [])) (hIc : IntsAre cv cs) (hlc : cs.length = 6) (hId : IntsAre dv du)
    (hlaw : ∀ k : Nat, k < 6 → (∀ x ∈ cs, cs.getD k 0 ≤ x) → fns.getD k [] = du)
    (hret : ∀ hF tk, Fr h₀ L hF m0 → Q (.ret (.bool true)) { s with heap := hF, toks := tk }) :
    wpAny (MM w) (lawA dp un gd L fa ccd) (exec (st 18) (lawEnv L fa ccd)) Q E s := by
  k_with_none
  k_with "my lcomp" => (k_dflt (refine LCt.ListComp_T (F₀ := by k_asm) (by with_unfolding_all rfl) (by decide) (by rfl) (by decide) (by rfl) ?_))
  k_with "my src" => (refine stop ?_)
  conv in st 18 => whnf
  k_steps
  dsimp only [Stop]
  rename_i h1 tk1 tr ur vr hr F1 N1 hk1
  refine LCt.CompSrcT.range (n := 6) rfl F1 N1 hr (by decide) (by decide) (by rw [sizeLine_eq]; decide) ?_
  intro g
  refine kci_range (fun l _ => l) (fun k tk Ix oIx C oC D m₂ ys l h tkk E' hlo hhi hy hC hmx F' N' off ne mk => ?_) ?_ (fun l k => Nat.le_succ _)
  · clear F1 N1 hk1 hr
    have hk6 : k.toNat < 6 := by omega
    have hcl : cv.length = 6 := by rw [hIc.length, hlc]
    obtain ⟨tc, hcv⟩ : ∃ t, cv[k.toNat]? = some (.int (cs.getD k.toNat 0) t) := by
      have e := List.getElem?_eq_getElem (l := cv) (i := k.toNat) (by omega)
      obtain ⟨t, ht⟩ := ints_at hIc e
      exact ⟨t, by rw [e, ht]⟩
    obtain ⟨f, hf⟩ : ∃ f, fl[k.toNat]? = some f := ⟨_, List.getElem?_eq_getElem (by omega)⟩
    have hfm : (f.a, listOf f.vs.toArray f.vs.length) ∈ fobs fl := List.mem_map.mpr ⟨f, List.mem_of_getElem? hf, rfl⟩
    have hfr : (frefs fl)[k.toNat]? = some (.ref f.a) := by unfold frefs; rw [List.getElem?_map, hf]; rfl
    have hIf := hfl _ f hf
    k_with "my sub" => (first
      | (k_dflt refine' c_item (vs := cv) (n := nc) (by k_asm) (by kcf_m) hlo (by omega) hcv ?_)
      | (k_dflt refine' c_item (vs := frefs fl) (n := nf) (by k_asm) (by kcf_m) hlo (by omega) hfr ?_))
    k_with "my ne" => (refine stop ?_)
    k_steps
    · dsimp only [Stop]
      rename_i h5 M5 t5 k5 F5 N5 a5 b5 e5
      refine c_ne0 (vs := f.vs) (us := dv) (n := f.vs.length) (k := nd) (ns := fns.getD k.toNat []) (ms := du) N5 (by kcf_m) (by kcf_m) hIf hId (by show un + 64 < cLine; omega) (hlaw _ hk6 (by intro x hx; rw [e5]; exact b5 x hx)) ?_
      k_steps
      exact LCg.CompEnd.intro (by assumption) (by assumption) _ (by kcf_all) off trivial (kci_no rfl rfl)
    · exact LCg.CompEnd.intro (by assumption) (by assumption) _ (by kcf_all) off trivial (kci_no rfl rfl)
  show ∀ ys, _ → _
  intro ys hys hyl D hF tk FF NF off
  have hnil : (rangeKs 0 6).foldl (fun (l : List Int) (_ : Int) => l) [] = [] := rfl
  rw [hnil] at hys
  clear F1 N1 hk1 hr
  k_with "my eq" => (refine stop ?_)
  k_steps
  dsimp only [Stop]
  rename_i l9 h9 F9 N9 lt9
  exact c_eq1 (vs := ys) (us := []) (n := ys.length) (k := 0) (ns := []) (ms := []) N9 (by kcf_m) (by kcf_m) hys .nil (by show un + 64 < cLine; omega) rfl (hret h9 _ F9)

theorem law_body {w : World} {p : Program} {loose : List Str} {mean : ExcName → Option Value} {mg mb : Str → Option Value} {dp un : Nat} {gd : Option (List Code)} {fa : Addr} {ccd : Value} {A₀ : Around} {base h₀ : Heap} {L : Addr} {m0 : Str → Option Value} {rest : List (Addr × Obj)} {s : Shared}
    {Q : Flow → Shared → Prop} {E : Value → Shared → Prop} {o1 o2 o3 o4 o5 o6 o7 o8 : Obj} {objs : List (Addr × Obj)} {Sc : Addr} {sv : List Value} {sn : List Int}
    (B : Below A₀ base [] h₀) (X : (hd.heap_39 w.params).In h₀) (T : Top p loose mean mg mb h₀) (hE : PassesOwn (MM w) (lawA dp un gd L fa ccd) (lawEnv L fa ccd) E) (hVE : NoName (Str.ofString "ValueError") p loose) (F : Fr h₀ L s.heap (fun y => if y = Str.ofString "script" then some (.ref Sc) else m0 y)) (N : News h₀ L s.heap ((L + 1, o1) :: (L + 2, o2) :: (L + 3, o3) :: (L + 4, o4) :: (L + 5, o5) :: (L + 6, o6) :: (L + 7, o7) :: (L + 8, o8) :: []))
    (d1 : o1.data = .cell none) (d2 : o2.data = .cell none) (d3 : o3.data = .cell none) (d4 : o4.data = .cell none) (d5 : o5.data = .cell none) (d6 : o6.data = .cell none) (d7 : o7.data = .cell none) (d8 : o8.data = .cell none)
    (hS : h₀.IsList Sc sv.toArray) (hI : IntsAre sv sn) (h63 : sn.length ≤ 63) (hdp : dp + 9 < recursionLimit) (hun : un + 200 < cLine)
    (hplain : ∀ a0 a1 a2 a3 a4 a5 : Int, (0 ≤ a0 ∧ a0 < 13) → (0 ≤ a1 ∧ a1 < 13) → (0 ≤ a2 ∧ a2 < 13) → (0 ≤ a3 ∧ a3 < 13) → (0 ≤ a4 ∧ a4 < 13) → (0 ≤ a5 ∧ a5 < 13) → Plain a0 a1 a2 a3 a4 a5)
    (hQ : ∀ m' hF tk, Fr h₀ L hF m' → Q (.ret (.bool true)) { s with heap := hF, toks := tk }) :
    wpAny (MM w) (lawA dp un gd L fa ccd) (execs lawDef.1 (lawEnv L fa ccd)) Q E s := by
  rw [body_eq]
  refine wpAny_execs_cons (s0 B X T hE F N hS hI h63 ?_)
  intro Dr ys h1 k1 hys F1 N1 off1
  have hlen : (((sn ++ [0, 4, 3, 3, 9, 10]).take 6).map (fun x => x % 13)).length = 6 := by
    rw [List.length_map, List.length_take, List.length_append]
    show min 6 (sn.length + 6) = 6
    omega
  obtain ⟨a0, a1, a2, a3, a4, a5, t0, t1, t2, t3, t4, t5, rfl, hl⟩ := ints6 hys hlen
  have hb : ∀ x ∈ [a0, a1, a2, a3, a4, a5], 0 ≤ x ∧ x < 13 := by
    intro x hx
    rw [← hl] at hx
    obtain ⟨y, _, rfl⟩ := List.mem_map.mp hx
    exact ⟨Int.emod_nonneg _ (by decide), Int.emod_lt_of_pos _ (by decide)⟩
  have P := hplain a0 a1 a2 a3 a4 a5 (hb _ (by simp)) (hb _ (by simp)) (hb _ (by simp)) (hb _ (by simp)) (hb _ (by simp)) (hb _ (by simp))
  clear hb hl hlen hys hplain F N
  have N1' : News h₀ L h1 ((L + 1, o1) :: (L + 2, o2) :: (L + 3, o3) :: (L + 4, o4) :: (L + 5, o5) :: (L + 6, o6) :: (L + 7, o7) :: (L + 8, o8) :: (Dr, listOf #[.int a0 t0, .int a1 t1, .int a2 t2, .int a3 t3, .int a4 t4, .int a5 t5] 6) :: []) := news_sub N1 (by kcf_all)
  dsimp only
  refine wpAny_execs_cons (s1 (rest := []) B X T hE F1 N1' (List.forall_mem_cons.mpr ⟨(off1 (L + 1, o1) (by kcf_m)).symm, List.forall_mem_nil _⟩) d1 ?_)
  intro O1 o1' h2 k2 F2 N2 d1' lo1 ltO1
  dsimp only
  refine wpAny_execs_cons (s2 (rest := []) (objs := (O1, listOf #[.int a0 t0, .int a2 t2, .int a4 t4] 0) :: []) B X T hE F2 (news_sub N2 (by kcf_all)) (List.forall_mem_cons.mpr ⟨(off1 (L + 2, o2) (by kcf_m)).symm, List.forall_mem_cons.mpr ⟨Nat.ne_of_gt (Nat.lt_of_le_of_lt (Nat.add_le_add_left (by decide : 2 ≤ 8) L) lo1), List.forall_mem_nil _⟩⟩) d2 ?_)
  intro O2 o2' h3 k3 F3 N3 d2' lo2 ltO2
  clear F1 N1 N1' F2 N2
  dsimp only
  refine wpAny_execs_cons (s3 (rest := []) (objs := []) B X T hE hVE F3 (news_sub N3 (by kcf_all)) (by omega) (by omega) d1' d2' ?_)
  intro Mi Le ms ls n1 n2 h4 k4 hms hls F4 N4 lo3 lo4
  clear F3 N3
  dsimp only
  refine wpAny_execs_cons (s4 (rest := []) (mi := (uld [a0, a2, a4] [a1, a3, a5]).1) (objs := (Le, listOf ls.toArray n2) :: []) B X T hE F4 (news_sub N4 (by kcf_all)) d1' d2' hms (by omega) P.p1 ?_)
  intro h5 k5 F5 N5
  clear F4 N4
  dsimp only
  refine wpAny_execs_cons (s5 (rest := []) (mi := (uld [a0, a2, a4] [a1, a3, a5]).2) (objs := (Mi, listOf ms.toArray n1) :: []) B X T hE F5 (news_sub N5 (by kcf_all)) d1' d2' hls (by omega) P.p2 ?_)
  intro h6 k6 F6 N6
  clear F5 N5
  dsimp only
  refine wpAny_execs_cons (s6 (rest := (L + 1, o1') :: (L + 2, o2') :: (L + 3, o3) :: (L + 4, o4) :: (L + 5, o5) :: (L + 6, o6) :: (L + 7, o7) :: (L + 8, o8) :: (Mi, listOf ms.toArray n1) :: (Le, listOf ls.toArray n2) :: (O1, listOf #[.int a0 t0, .int a2 t2, .int a4 t4] 0) :: (O2, listOf #[.int a1 t1, .int a3 t3, .int a5 t5] 0) :: []) B X T hE F6 (news_sub N6 (by kcf_all)) ?_)
  intro Lv h7 k7 F7 N7 ltLv
  clear F6 N6
  have loLv : (L + 8 : Nat) < Lv := ltLv (L + 8, o8) (by kcf_m)
  dsimp only
  refine wpAny_execs_cons (s7 (rest := []) (mi := (uld [a0, a2, a4] [a1, a3, a5]).1) (le := (uld [a0, a2, a4] [a1, a3, a5]).2) (objs := (O1, listOf #[.int a0 t0, .int a2 t2, .int a4 t4] 0) :: (O2, listOf #[.int a1 t1, .int a3 t3, .int a5 t5] 0) :: []) B X T hE F7 (news_sub N7 (by kcf_all)) (List.forall_mem_cons.mpr ⟨loLv, List.forall_mem_cons.mpr ⟨lo3, List.forall_mem_cons.mpr ⟨lo4, List.forall_mem_cons.mpr ⟨lo1, List.forall_mem_cons.mpr ⟨lo2, List.forall_mem_nil _⟩⟩⟩⟩⟩) (fun q hq => Nat.ne_of_lt (ltLv q (by revert q; kcf_all))) d3 hms hls P.p3 P.p3' ?_)
  intro vs nv o3' h8 k8 hvs F8 N8
  clear F7 N7
  have h13 : (levelsTo (uld [a0, a2, a4] [a1, a3, a5]).1 (uld [a0, a2, a4] [a1, a3, a5]).2 13).length = 13 := by unfold levelsTo; rw [List.length_map, List.length_range]
  dsimp only
  refine wpAny_execs_cons (s8 (ns := (levelsTo (uld [a0, a2, a4] [a1, a3, a5]).1 (uld [a0, a2, a4] [a1, a3, a5]).2 13)) (rest := (L + 1, o1') :: (L + 2, o2') :: (L + 3, o3') :: (L + 4, o4) :: (L + 5, o5) :: (L + 6, o6) :: (L + 7, o7) :: (L + 8, o8) :: (Mi, listOf ms.toArray n1) :: (Le, listOf ls.toArray n2) :: (O1, listOf #[.int a0 t0, .int a2 t2, .int a4 t4] 0) :: (O2, listOf #[.int a1 t1, .int a3 t3, .int a5 t5] 0) :: []) B X T hE F8 (news_sub N8 (by kcf_all)) (by omega) (by omega) (cells_off loLv fun q hq => Nat.ne_of_lt (ltLv q (by revert q; kcf_all))) hvs h13 ?_)
  intro Hi ws hi h9 k9 hNL1 hws F9 N9 ltHi
  clear F8 N8
  have loHi : (L + 8 : Nat) < Hi := ltHi (L + 8, o8) (by kcf_m)
  dsimp only
  refine wpAny_execs_cons (s9 (ns := (levelsTo (uld [a0, a2, a4] [a1, a3, a5]).1 (uld [a0, a2, a4] [a1, a3, a5]).2 13)) (rest := (L + 1, o1') :: (L + 2, o2') :: (L + 3, o3') :: (L + 4, o4) :: (L + 5, o5) :: (L + 6, o6) :: (L + 7, o7) :: (L + 8, o8) :: (Hi, listOf ws.toArray ws.length) :: (Mi, listOf ms.toArray n1) :: (Le, listOf ls.toArray n2) :: (O1, listOf #[.int a0 t0, .int a2 t2, .int a4 t4] 0) :: (O2, listOf #[.int a1 t1, .int a3 t3, .int a5 t5] 0) :: []) B X T hE F9 (news_sub N9 (by kcf_all)) (by omega) (by omega) (cells_off loLv (List.forall_mem_cons.mpr ⟨Nat.ne_of_gt (ltHi (Lv, listOf vs.toArray nv) (by kcf_m)), fun q hq => Nat.ne_of_lt (ltLv q (by revert q; kcf_all))⟩)) hvs h13 ?_)
  intro Lo xs lo h10 k10 hNL2 hxs F10 N10 ltLo
  clear F9 N9
  have loLo : (L + 8 : Nat) < Lo := ltLo (L + 8, o8) (by kcf_m)
  obtain ⟨hl6, hl6', p10, pno, md, pmd, pfin⟩ := P.p4 hi lo hNL1 hNL2
  dsimp only
  refine wpAny_execs_cons (s10 (rest := (L + 1, o1') :: (L + 2, o2') :: (L + 3, o3') :: (L + 4, o4) :: (L + 5, o5) :: (L + 6, o6) :: (L + 7, o7) :: (L + 8, o8) :: (Lv, listOf vs.toArray nv) :: (Mi, listOf ms.toArray n1) :: (Le, listOf ls.toArray n2) :: (O1, listOf #[.int a0 t0, .int a2 t2, .int a4 t4] 0) :: (O2, listOf #[.int a1 t1, .int a3 t3, .int a5 t5] 0) :: []) B X T hE F10 (news_sub N10 (by kcf_all)) (by omega) hws hxs hl6 hl6' p10 ?_)
  intro h11 k11 F11 N11
  clear F10 N10
  dsimp only
  refine wpAny_execs_cons (s11 (mi := (uld [a0, a2, a4] [a1, a3, a5]).1) (le := (uld [a0, a2, a4] [a1, a3, a5]).2) (rest := (L + 1, o1') :: (L + 2, o2') :: (L + 3, o3') :: (L + 4, o4) :: (L + 5, o5) :: (L + 6, o6) :: (L + 7, o7) :: (L + 8, o8) :: (Lv, listOf vs.toArray nv) :: (O1, listOf #[.int a0 t0, .int a2 t2, .int a4 t4] 0) :: (O2, listOf #[.int a1 t1, .int a3 t3, .int a5 t5] 0) :: []) B X T hE F11 (news_sub N11 (by kcf_all)) (by omega) hws hxs hms hls hl6 hl6' P.p3 P.p3' ?_)
  intro h12 k12 F12 N12
  clear F11 N11
  dsimp only
  refine wpAny_execs_cons (s12 (rest := []) (ns := (levelsTo (uld [a0, a2, a4] [a1, a3, a5]).1 (uld [a0, a2, a4] [a1, a3, a5]).2 13)) (objs := (O1, listOf #[.int a0 t0, .int a2 t2, .int a4 t4] 0) :: (O2, listOf #[.int a1 t1, .int a3 t3, .int a5 t5] 0) :: []) B X T hE hVE F12 (news_sub N12 (by kcf_all)) (List.forall_mem_cons.mpr ⟨loLo, List.forall_mem_cons.mpr ⟨loHi, List.forall_mem_cons.mpr ⟨loLv, List.forall_mem_cons.mpr ⟨lo1, List.forall_mem_cons.mpr ⟨lo2, List.forall_mem_nil _⟩⟩⟩⟩⟩) (by omega) (by omega) hws hxs hvs hl6 hl6' h13 d4 ?_)
  intro No Md os ds m1 m2 o4' h14 k14 hos hds F14 N14 d4' loNo loMd
  clear F12 N12
  rw [pno] at hos
  rw [pmd] at hds
  dsimp only
  refine wpAny_execs_cons (s13 (rest := []) (md := md) (objs := (Lv, listOf vs.toArray nv) :: (O1, listOf #[.int a0 t0, .int a2 t2, .int a4 t4] 0) :: (O2, listOf #[.int a1 t1, .int a3 t3, .int a5 t5] 0) :: []) B X T hE F14 (news_sub N14 (by kcf_all)) (by omega) hos hds d4' ?_)
  intro h15 k15 F15 N15
  clear F14 N14
  dsimp only
  refine wpAny_execs_cons (s14 (rest := []) (objs := (Lv, listOf vs.toArray nv) :: (Md, listOf ds.toArray m2) :: (O1, listOf #[.int a0 t0, .int a2 t2, .int a4 t4] 0) :: (O2, listOf #[.int a1 t1, .int a3 t3, .int a5 t5] 0) :: []) B X T hE F15 (news_sub N15 (by kcf_all)) (List.forall_mem_cons.mpr ⟨loLv, List.forall_mem_cons.mpr ⟨loMd, List.forall_mem_cons.mpr ⟨lo1, List.forall_mem_cons.mpr ⟨lo2, List.forall_mem_nil _⟩⟩⟩⟩) d5 ?_)
  intro Fl o5' h16 k16 F16 N16 d5' loFl ltFl
  clear F15 N15
  dsimp only
  refine wpAny_execs_cons (s15 (rest := []) (objs := (Fl, listOf #[] 0) :: (Lv, listOf vs.toArray nv) :: (Md, listOf ds.toArray m2) :: (O1, listOf #[.int a0 t0, .int a2 t2, .int a4 t4] 0) :: (O2, listOf #[.int a1 t1, .int a3 t3, .int a5 t5] 0) :: []) B X T hE F16 (news_sub N16 (by kcf_all)) (List.forall_mem_cons.mpr ⟨loFl, (List.forall_mem_cons.mpr ⟨loLv, List.forall_mem_cons.mpr ⟨loMd, List.forall_mem_cons.mpr ⟨lo1, List.forall_mem_cons.mpr ⟨lo2, List.forall_mem_nil _⟩⟩⟩⟩)⟩) d6 ?_)
  intro Co o6' h17 k17 F17 N17 d6' loCo ltCo
  clear F16 N16
  dsimp only
  refine wpAny_execs_cons (s16 (rest := []) (objs := (Lv, listOf vs.toArray nv) :: (Md, listOf ds.toArray m2) :: []) B X T hE F17 (news_sub N17 (by kcf_all)) (List.forall_mem_cons.mpr ⟨lo1, List.forall_mem_cons.mpr ⟨lo2, List.forall_mem_cons.mpr ⟨loLv, List.forall_mem_cons.mpr ⟨loMd, List.forall_mem_nil _⟩⟩⟩⟩) (fun q hq => ltFl q (by revert q; kcf_all)) (ltCo (Fl, listOf #[] 0) (.head _)) (by omega) (by omega) d1' d2' d5' d6' d7 ?_)
  intro fl nf cv nc o7' h18 k18 hfl6 hflows hcosts F18 N18 lofl
  clear F17 N17
  have F18' := fr_head (x := Str.ofString "levels") (v := .ref Lv) F18 rfl
  dsimp only
  refine wpAny_execs_cons (s17 (rest := []) (ns := (levelsTo (uld [a0, a2, a4] [a1, a3, a5]).1 (uld [a0, a2, a4] [a1, a3, a5]).2 13)) (md := md) (objs := (Fl, listOf (frefs fl).toArray nf) :: (Co, listOf cv.toArray nc) :: fobs fl) B X T hE F18' (news_sub N18 (by kcf_all)) ?lo17 d4' d8 hvs h13 hds ?_)
  case lo17 =>
    refine List.forall_mem_cons.mpr ⟨loLv, List.forall_mem_cons.mpr ⟨loMd, List.forall_mem_cons.mpr ⟨loFl, List.forall_mem_cons.mpr ⟨loCo, fun q hq => ?_⟩⟩⟩⟩
    obtain ⟨f, hf, rfl⟩ := fobs_mem hq
    exact lofl f hf
  intro Du ys o8' h19 k19 hys F19 N19 d8'
  clear F18 F18' N18
  dsimp only
  have hfns : ∀ j f, fl[j]? = some f → IntsAre f.vs (((ords a1 a3 a5).map (flowOf [a0, a2, a4])).getD j []) := by
    intro j f hj
    have hj6 : j < 6 := by have := (List.getElem?_eq_some_iff.mp hj).1; omega
    have hz := hflows j f hj
    have e : ((ords a1 a3 a5).map (flowOf [a0, a2, a4])).getD j [] = flowOf [a0, a2, a4] ((ords a1 a3 a5).getD j []) := by
      match j, hj6 with
      | 0, _ => rfl
      | 1, _ => rfl
      | 2, _ => rfl
      | 3, _ => rfl
      | 4, _ => rfl
      | 5, _ => rfl
    rw [e]
    exact hz
  refine wpAny_execs_cons (s18 (rest := []) (fns := (ords a1 a3 a5).map (flowOf [a0, a2, a4])) (cs := (ords a1 a3 a5).map (costOf [a0, a2, a4])) (du := (levelsTo (uld [a0, a2, a4] [a1, a3, a5]).1 (uld [a0, a2, a4] [a1, a3, a5]).2 13).map fun x => x - md) (objs := []) B X T hE F19 (news_sub N19 (by kcf_all)) (by omega) d5' d6' d8' hfl6 hfns hcosts rfl hys ?law ?_)
  case law =>
    intro k hk hmin
    have e : ((ords a1 a3 a5).map (flowOf [a0, a2, a4])).getD k [] = flowOf [a0, a2, a4] ((ords a1 a3 a5).getD k []) := by
      match k, hk with
      | 0, _ => rfl
      | 1, _ => rfl
      | 2, _ => rfl
      | 3, _ => rfl
      | 4, _ => rfl
      | 5, _ => rfl
    rw [e]
    exact pfin k hk hmin
  intro hF tkF FF
  dsimp only
  exact hQ _ hF tkF FF

end Mine
end
section
set_option maxRecDepth 100000
set_option maxHeartbeats 1000000
namespace Mine
def suF (lt : C → C → Bool) (e : Nat) : Nat → List C → Nat → List C × Nat
  | 0, cs, p => (cs, p)
  | n + 1, cs, p => if 2 * p + 1 < e then suF lt e n (cs.set p (cat cs (pick lt e cs (2 * p + 1)))) (pick lt e cs (2 * p + 1)) else (cs, p)
def sdF (lt : C → C → Bool) (sp : Nat) (c : C) : Nat → List C → Nat → List C
  | 0, cs, p => cs.set p c
  | n + 1, cs, p => if sp < p then (if lt c (cat cs ((p - 1) / 2)) = true then sdF lt sp c n (cs.set p (cat cs ((p - 1) / 2))) ((p - 1) / 2) else cs.set p c) else cs.set p c
theorem SU.fn {lt : C → C → Bool} {e : Nat} {cs : List C} {p : Nat} {r : List C} {q : Nat} (h : SU lt e cs p r q) : ∀ n, e - p ≤ n → suF lt e n cs p = (r, q) := by
  induction h with
  | stop hn =>
    intro n hle
    cases n with
    | zero => rfl
    | succ n => unfold suF; rw [if_neg hn]
  | @go cs p r q h1 h2 ih =>
    intro n hle
    cases n with
    | zero => omega
    | succ n =>
      unfold suF
      rw [if_pos h1]
      refine ih n ?_
      have : 2 * p + 1 ≤ pick lt e cs (2 * p + 1) := by unfold pick; split <;> omega
      omega
theorem SD.fn {lt : C → C → Bool} {sp : Nat} {c : C} {cs : List C} {p : Nat} {r : List C} (h : SD lt sp c cs p r) : ∀ n, p ≤ n → sdF lt sp c n cs p = r := by
  induction h with
  | stop hn =>
    intro n hle
    cases n with
    | zero => rfl
    | succ n => unfold sdF; rw [if_neg hn]
  | brk h1 h2 =>
    intro n hle
    cases n with
    | zero => rfl
    | succ n => unfold sdF; rw [if_pos h1, if_neg (by rw [h2]; decide)]
  | up h1 h2 _ ih =>
    intro n hle
    cases n with
    | zero => omega
    | succ n =>
      unfold sdF
      rw [if_pos h1, if_pos h2]
      exact ih n (by omega)
def siftF (lt : C → C → Bool) (xs : List C) (p : Nat) : List C := sdF lt p (cat xs p) 6 ((suF lt 6 6 xs p).1.set (suF lt 6 6 xs p).2 (cat xs p)) (suF lt 6 6 xs p).2
theorem Sift.fn {lt : C → C → Bool} {xs : List C} {p : Nat} {r : List C} (h : Sift lt xs p r) (h6 : xs.length = 6) (hp : p < 6) : r = siftF lt xs p := by
  obtain ⟨ys, q, h1, h2⟩ := h
  rw [h6] at h1
  have e := h1.fn 6 (by omega)
  have hq := (h1.perm h6.symm (by omega) (cat xs p)).2
  unfold siftF
  rw [e]
  exact (h2.fn 6 (by omega)).symm
def Heap6 (κ : C → Int) (r : List C) : Prop := ∃ d0 d1 d2 d3 d4 d5, r = [d0, d1, d2, d3, d4, d5] ∧ κ d0 ≤ κ d1 ∧ κ d0 ≤ κ d2 ∧ κ d1 ≤ κ d3 ∧ κ d1 ≤ κ d4 ∧ κ d2 ≤ κ d5
section
variable {lt : C → C → Bool} {κ : C → Int} {c0 c1 c2 c3 c4 c5 : C}
theorem sift2 (hlt : ∀ c d, lt c d = decide (κ c < κ d)) : ∃ x y, siftF lt [c0, c1, c2, c3, c4, c5] 2 = [c0, c1, x, c3, c4, y] ∧ κ x ≤ κ y := by
  by_cases h : κ c2 < κ c5
  · exact ⟨c2, c5, by simp [siftF, suF, sdF, pick, cat, hlt, h], by omega⟩
  · exact ⟨c5, c2, by simp [siftF, suF, sdF, pick, cat, hlt, h], by omega⟩
theorem sift1 (hlt : ∀ c d, lt c d = decide (κ c < κ d)) : ∃ x y z, siftF lt [c0, c1, c2, c3, c4, c5] 1 = [c0, x, c2, y, z, c5] ∧ κ x ≤ κ y ∧ κ x ≤ κ z := by
  by_cases h : κ c3 < κ c4
  · by_cases h' : κ c1 < κ c3
    · exact ⟨c1, c3, c4, by simp [siftF, suF, sdF, pick, cat, hlt, h, h'], by omega, by omega⟩
    · exact ⟨c3, c1, c4, by simp [siftF, suF, sdF, pick, cat, hlt, h, h'], by omega, by omega⟩
  · by_cases h' : κ c1 < κ c4
    · exact ⟨c1, c3, c4, by simp [siftF, suF, sdF, pick, cat, hlt, h, h'], by omega, by omega⟩
    · exact ⟨c4, c3, c1, by simp [siftF, suF, sdF, pick, cat, hlt, h, h'], by omega, by omega⟩
theorem sift0 (hlt : ∀ c d, lt c d = decide (κ c < κ d)) (h13 : κ c1 ≤ κ c3) (h14 : κ c1 ≤ κ c4) (h25 : κ c2 ≤ κ c5) : Heap6 κ (siftF lt [c0, c1, c2, c3, c4, c5] 0) := by
  by_cases h : κ c1 < κ c2
  · by_cases h' : κ c3 < κ c4
    · by_cases a : κ c0 < κ c3
      · by_cases b : κ c0 < κ c1
        · exact ⟨c0, c1, c2, c3, c4, c5, by simp [siftF, suF, sdF, pick, cat, hlt, h, h', a, b], by omega, by omega, by omega, by omega, by omega⟩
        · exact ⟨c1, c0, c2, c3, c4, c5, by simp [siftF, suF, sdF, pick, cat, hlt, h, h', a, b], by omega, by omega, by omega, by omega, by omega⟩
      · exact ⟨c1, c3, c2, c0, c4, c5, by simp [siftF, suF, sdF, pick, cat, hlt, h, h', a], by omega, by omega, by omega, by omega, by omega⟩
    · by_cases a : κ c0 < κ c4
      · by_cases b : κ c0 < κ c1
        · exact ⟨c0, c1, c2, c3, c4, c5, by simp [siftF, suF, sdF, pick, cat, hlt, h, h', a, b], by omega, by omega, by omega, by omega, by omega⟩
        · exact ⟨c1, c0, c2, c3, c4, c5, by simp [siftF, suF, sdF, pick, cat, hlt, h, h', a, b], by omega, by omega, by omega, by omega, by omega⟩
      · exact ⟨c1, c4, c2, c3, c0, c5, by simp [siftF, suF, sdF, pick, cat, hlt, h, h', a], by omega, by omega, by omega, by omega, by omega⟩
  · by_cases a : κ c0 < κ c5
    · by_cases b : κ c0 < κ c2
      · exact ⟨c0, c1, c2, c3, c4, c5, by simp [siftF, suF, sdF, pick, cat, hlt, h, a, b], by omega, by omega, by omega, by omega, by omega⟩
      · exact ⟨c2, c1, c0, c3, c4, c5, by simp [siftF, suF, sdF, pick, cat, hlt, h, a, b], by omega, by omega, by omega, by omega, by omega⟩
    · exact ⟨c2, c1, c5, c3, c4, c0, by simp [siftF, suF, sdF, pick, cat, hlt, h, a], by omega, by omega, by omega, by omega, by omega⟩
end
theorem six {cs : List C} (h : cs.length = 6) : ∃ c0 c1 c2 c3 c4 c5, cs = [c0, c1, c2, c3, c4, c5] := by
  match cs, h with
  | [c0, c1, c2, c3, c4, c5], _ => exact ⟨c0, c1, c2, c3, c4, c5, rfl⟩
theorem heap_start {lt : C → C → Bool} {κ : C → Int} (hlt : ∀ c d, lt c d = decide (κ c < κ d)) {cs r1 r2 r : List C} (h6 : cs.length = 6) (h1 : Sift lt cs 2 r1) (h2 : Sift lt r1 1 r2) (h3 : Sift lt r2 0 r) : Heap6 κ r := by
  obtain ⟨c0, c1, c2, c3, c4, c5, rfl⟩ := six h6
  obtain ⟨x, y, e1, l1⟩ := sift2 (c0 := c0) (c1 := c1) (c2 := c2) (c3 := c3) (c4 := c4) (c5 := c5) hlt
  have f1 := h1.fn h6 (by decide)
  rw [e1] at f1
  subst f1
  obtain ⟨x', y', z', e2, l2, l3⟩ := sift1 (c0 := c0) (c1 := c1) (c2 := x) (c3 := c3) (c4 := c4) (c5 := y) hlt
  have f2 := h2.fn rfl (by decide)
  rw [e2] at f2
  subst f2
  have f3 := h3.fn rfl (by decide)
  rw [f3]
  exact sift0 hlt l2 l3 l1
theorem heap_step {lt : C → C → Bool} {κ : C → Int} (hlt : ∀ c d, lt c d = decide (κ c < κ d)) {cs r : List C} {c : C} (H : Heap6 κ cs) (h : Sift lt (cs.set 0 c) 0 r) : Heap6 κ r := by
  obtain ⟨d0, d1, d2, d3, d4, d5, rfl, l1, l2, l3, l4, l5⟩ := H
  have f := h.fn rfl (by decide)
  rw [f]
  exact sift0 hlt l3 l4 l5
theorem Heap6.root {κ : C → Int} {cs : List C} (H : Heap6 κ cs) : ∀ c ∈ cs, κ (cat cs 0) ≤ κ c := by
  obtain ⟨d0, d1, d2, d3, d4, d5, rfl, l1, l2, l3, l4, l5⟩ := H
  intro c hc
  show κ d0 ≤ κ c
  simp only [List.mem_cons, List.not_mem_nil, or_false] at hc
  rcases hc with rfl | rfl | rfl | rfl | rfl | rfl <;> omega
end Mine
end
section
set_option maxRecDepth 100000
set_option maxHeartbeats 1000000
namespace Mine
theorem Run.bound {lt : C → C → Bool} {bet : Int → Int → Bool} {st : Int} {ns : List Int} {k : Nat} {cs : List C} {o : Int} (hst : st = 1 ∨ st = -1) (h : Run lt bet st ns k cs o) (hk : k < 40) : ∀ c ∈ cs, -50 < c.i ∧ c.i < 50 := by
  obtain ⟨h1, h2, J, h3, h4, h5⟩ := h.orders hst
  intro c hc
  obtain ⟨j, e⟩ := h2 c hc
  have := h5 c hc
  rcases hst with rfl | rfl <;> omega
/-- the order of the keys is the order of the numbers, up to ties -/
theorem key_le {σ : Int} {c d : C} (hσ : σ = 1 ∨ σ = -1) (b : -50 < c.i ∧ c.i < 50) (b' : -50 < d.i ∧ d.i < 50) (h : σ * c.key ≤ σ * d.key) : σ * c.x ≤ σ * d.x := by
  simp only [C.key] at h
  rcases hσ with rfl | rfl <;> omega
theorem take_get {ns : List Int} {k : Nat} (hk : k < ns.length) : ns.take (k + 1) = ns.take k ++ [ns.getD k 0] := by
  rw [List.take_add_one, List.getElem?_eq_getElem hk, List.getD_eq_getElem?_getD, List.getElem?_eq_getElem hk]
  rfl
theorem take6 {ns : List Int} (h : 6 ≤ ns.length) : (List.range 6).map (fun j : Nat => ns.getD j 0) = ns.take 6 := by
  match ns, h with
  | a :: b :: c :: d :: e :: f :: r, _ => simp [List.range, List.range.loop]
/-- what is in the heap after k items: the best six, up to ties -/
theorem Run.best {lt : C → C → Bool} {bet : Int → Int → Bool} {st σ : Int} {ns : List Int} {k : Nat} {cs : List C} {o : Int} (hσ : σ = 1 ∨ σ = -1) (hst : st = 1 ∨ st = -1)
    (hlt : ∀ c d, lt c d = decide (σ * c.key < σ * d.key)) (hbet : ∀ e t, bet e t = decide (σ * t < σ * e)) (h : Run lt bet st ns k cs o) : k ≤ ns.length → k < 40 →
    Heap6 (fun c => σ * c.key) cs ∧ ∃ ds : List Int, (cs.map C.x ++ ds).Perm (ns.take k) ∧ ∀ c ∈ cs, ∀ d ∈ ds, σ * d ≤ σ * c.x := by
  induction h with
  | @start cs r1 r2 r h1 h2 h3 h4 =>
    intro hk _
    have hl := len_start h1
    refine ⟨heap_start hlt hl h2 h3 h4, [], ?_, fun _ _ _ hd => absurd hd (by simp)⟩
    have P : r.Perm cs := (h4.perm (by rw [h3.len, h2.len]; omega)).trans ((h3.perm (by rw [h2.len]; omega)).trans (h2.perm (by omega)))
    have hx : cs.map C.x = (List.range 6).map (fun j : Nat => ns.getD j 0) := by
      have := congrArg (List.map Prod.fst) h1
      simpa [List.map_map, Function.comp_def] using this
    rw [List.append_nil, ← take6 hk, ← hx]
    exact P.map _
  | @skip k cs o hr hb ih =>
    intro hk hk40
    obtain ⟨H, ds, P, hd⟩ := ih (by omega) (by omega)
    refine ⟨H, ns.getD k 0 :: ds, ?_, ?_⟩
    · rw [take_get (by omega)]
      exact (List.perm_middle).trans ((List.perm_append_singleton _ _).symm.trans (P.append_right _))
    · intro c hc d hd'
      rcases List.mem_cons.mp hd' with rfl | hd'
      · rw [hbet] at hb
        have h1 := of_decide_eq_false hb
        have bd := hr.bound hst (by omega)
        exact Int.le_trans (Int.not_lt.mp h1) (key_le hσ (bd _ (cat_mem (by rw [hr.len.1]; decide))) (bd c hc) (H.root c hc))
      · exact hd c hc d hd'
  | @take k cs o a r hr hb hs ih =>
    intro hk hk40
    obtain ⟨H, ds, P, hd⟩ := ih (by omega) (by omega)
    have hl := hr.len.1
    have H' := H
    obtain ⟨d0, d1, d2, d3, d4, d5, rfl, _⟩ := H'
    have Pr : r.Perm [⟨a, ns.getD k 0, o⟩, d1, d2, d3, d4, d5] := hs.perm (by simp)
    refine ⟨heap_step hlt H hs, d0.x :: ds, ?_, ?_⟩
    · rw [take_get (by omega)]
      refine ((Pr.map C.x).append_right _).trans ?_
      show (ns.getD k 0 :: ([d1, d2, d3, d4, d5].map C.x ++ d0.x :: ds)).Perm _
      refine (List.Perm.cons _ List.perm_middle).trans ?_
      exact (List.Perm.cons _ P).trans (List.perm_append_singleton _ _).symm
    · rw [hbet] at hb
      have h1 : σ * d0.x < σ * ns.getD k 0 := of_decide_eq_true hb
      have bd := hr.bound hst (by omega)
      have b0 := bd d0 (.head _)
      intro c hc d hd'
      have hc' := Pr.mem_iff.mp hc
      have hd0 : σ * d ≤ σ * d0.x := by
        rcases List.mem_cons.mp hd' with rfl | hd'
        · exact Int.le_refl _
        · exact hd d0 (.head _) d hd'
      refine Int.le_trans hd0 ?_
      rcases List.mem_cons.mp hc' with rfl | hc'
      · exact Int.le_of_lt h1
      · exact key_le hσ b0 (bd c (.tail _ hc')) (H.root c (.tail _ hc'))
/-- what nlargest | nsmallest gives: the six best in order, the others not better -/
theorem NL.best {lt : C → C → Bool} {bet : Int → Int → Bool} {ord : C → C → Prop} {st σ : Int} {ns ys : List Int} (hσ : σ = 1 ∨ σ = -1) (hst : st = 1 ∨ st = -1)
    (hlt : ∀ c d, lt c d = decide (σ * c.key < σ * d.key)) (hbet : ∀ e t, bet e t = decide (σ * t < σ * e)) (hord : ∀ c d, ord c d → σ * d.key < σ * c.key) (h13 : ns.length = 13) (h : NL lt bet ord st ns ys) :
    ys.length = 6 ∧ ys.Pairwise (fun a b => σ * b ≤ σ * a) ∧ ∃ ds : List Int, (ys ++ ds).Perm ns ∧ ∀ y ∈ ys, ∀ d ∈ ds, σ * d ≤ σ * y := by
  obtain ⟨cs, o, r, hr, hp, hpw, rfl⟩ := h
  obtain ⟨_, ds, P, hd⟩ := hr.best hσ hst hlt hbet (by omega) (by decide)
  have bd := hr.bound hst (by decide)
  refine ⟨by rw [List.length_map, hp.length_eq, hr.len.1], ?_, ds, ?_, ?_⟩
  · refine List.pairwise_map.mpr ?_
    refine hpw.imp_of_mem ?_
    intro c d hc hd' ho
    exact key_le hσ (bd d (hp.mem_iff.mp hd')) (bd c (hp.mem_iff.mp hc)) (Int.le_of_lt (hord c d ho))
  · have e : ns.take 13 = ns := by rw [← h13, List.take_length]
    rw [e] at P
    exact ((hp.map C.x).append_right _).trans P
  · intro y hy d hd'
    obtain ⟨c, hc, rfl⟩ := List.mem_map.mp hy
    exact hd c (hp.mem_iff.mp hc) d hd'
end Mine
end
section
set_option maxRecDepth 100000
set_option maxHeartbeats 1000000
namespace Mine
theorem uniq : ∀ {l₁ l₂ : List Int}, l₁.Perm l₂ → l₁.Pairwise (fun a b => b ≤ a) → l₂.Pairwise (fun a b => b ≤ a) → l₁ = l₂
  | [], l₂, p, _, _ => (List.nil_perm.mp p).symm
  | a :: l₁, [], p, _, _ => absurd p.length_eq (by simp)
  | a :: l₁, b :: l₂, p, h₁, h₂ => by
    have ha : a ∈ b :: l₂ := p.mem_iff.mp (.head _)
    have hb : b ∈ a :: l₁ := p.mem_iff.mpr (.head _)
    obtain ⟨x1, y1⟩ := List.pairwise_cons.mp h₁
    obtain ⟨x2, y2⟩ := List.pairwise_cons.mp h₂
    have e1 : a ≤ b := by
      rcases List.mem_cons.mp ha with rfl | h
      · exact Int.le_refl _
      · exact x2 _ h
    have e2 : b ≤ a := by
      rcases List.mem_cons.mp hb with rfl | h
      · exact Int.le_refl _
      · exact x1 _ h
    have e : a = b := Int.le_antisymm e1 e2
    subst e
    rw [uniq ((List.perm_cons a).mp p) y1 y2]
theorem sorted_dn (l : List Int) : ∃ s : List Int, s.Perm l ∧ s.Pairwise (fun a b => b ≤ a) :=
  ⟨l.mergeSort (fun a b => decide (b ≤ a)), List.mergeSort_perm _ _, by
    have := List.pairwise_mergeSort (le := fun a b : Int => decide (b ≤ a)) (fun a b c h1 h2 => by simp at *; omega) (fun a b => by simp; omega) l
    exact this.imp fun h => by simpa using h⟩
/-- the sorted list of the thirteen levels -/
theorem middle {ns hi lo ds1 ds2 : List Int} (h13 : ns.length = 13) (l1 : hi.length = 6) (s1 : hi.Pairwise (fun a b => b ≤ a)) (p1 : (hi ++ ds1).Perm ns) (b1 : ∀ y ∈ hi, ∀ d ∈ ds1, d ≤ y)
    (l2 : lo.length = 6) (s2 : lo.Pairwise (fun a b => a ≤ b)) (p2 : (lo ++ ds2).Perm ns) (b2 : ∀ y ∈ lo, ∀ d ∈ ds2, y ≤ d) :
    ∃ md, (hi ++ md :: lo.reverse).Perm ns ∧ (hi ++ md :: lo.reverse).Pairwise (fun a b => b ≤ a) := by
  obtain ⟨e1, q1, w1⟩ := sorted_dn ds1
  obtain ⟨e2, q2, w2⟩ := sorted_dn ds2
  have P1 : (hi ++ e1).Perm ns := (q1.append_left _).trans p1
  have P2 : (e2 ++ lo.reverse).Perm ns := ((q2.append (List.reverse_perm lo)).trans List.perm_append_comm).trans p2
  have S1 : (hi ++ e1).Pairwise (fun a b => b ≤ a) := List.pairwise_append.mpr ⟨s1, w1, fun a ha b hb => b1 a ha b (q1.mem_iff.mp hb)⟩
  have S2 : (e2 ++ lo.reverse).Pairwise (fun a b => b ≤ a) := List.pairwise_append.mpr ⟨w2, List.pairwise_reverse.mpr s2, fun a ha b hb => b2 b (List.mem_reverse.mp hb) a (q2.mem_iff.mp ha)⟩
  have e := uniq (P1.trans P2.symm) S1 S2
  have le1 : e1.length = 7 := by have := P1.length_eq; rw [List.length_append] at this; omega
  have le2 : e2.length = 7 := by have := P2.length_eq; rw [List.length_append, List.length_reverse] at this; omega
  match e1, le1 with
  | md :: r, le1 =>
    have hr : r = lo.reverse := by
      have h1 : (hi ++ md :: r).drop 7 = r := by
        rw [List.drop_append, l1]
        simp [l1]
      have h2 : (e2 ++ lo.reverse).drop 7 = lo.reverse := by
        rw [← le2, List.drop_left]
      rw [← h1, e, h2]
    subst hr
    exact ⟨md, P1, S1⟩
theorem uld_sub : ∀ {xs a rest m : List Int}, a.Perm (xs ++ rest) → (uldGo xs a m).1 = m ∧ (uldGo xs a m).2.Perm rest
  | [], a, rest, m, h => ⟨rfl, h⟩
  | x :: xs, a, rest, m, h => by
    have hx : x ∈ a := h.mem_iff.mpr (.head _)
    unfold uldGo
    rw [if_pos hx]
    refine uld_sub ?_
    have h2 := (List.perm_cons_erase hx).symm.trans h
    exact (List.perm_cons x).mp h2
theorem high_low {ns hi lo : List Int} (h13 : ns.length = 13) (H : NL ltMin (fun e t => decide (t < e)) (fun c d => d.key < c.key) (-1) ns hi) (Lw : NL ltMax (fun e t => decide (e < t)) (fun c d => c.key < d.key) 1 ns lo) :
    hi.length = 6 ∧ lo.length = 6 ∧ (∀ zs : List Int, zs.Perm (hi ++ lo) → zs.Pairwise (· ≤ ·) → hi ++ lo.reverse = zs.reverse) ∧ (uld (hi ++ lo) ns).1 = [] ∧
    ∃ md, (uld (hi ++ lo) ns).2 = [md] ∧ (hi ++ md :: lo.reverse).Perm ns ∧ (hi ++ md :: lo.reverse).Pairwise (fun a b => b ≤ a) := by
  obtain ⟨l1, s1, ds1, p1, b1⟩ := H.best (σ := 1) (.inl rfl) (.inr rfl) (fun c d => by unfold ltMin; simp) (fun e t => by simp) (fun c d h => by omega) h13
  obtain ⟨l2, s2, ds2, p2, b2⟩ := Lw.best (σ := -1) (.inr rfl) (.inl rfl) (fun c d => by unfold ltMax; exact decide_eq_decide.mpr (by omega)) (fun e t => decide_eq_decide.mpr (by omega)) (fun c d h => by omega) h13
  obtain ⟨md, P, S⟩ := middle h13 l1 (s1.imp fun h => by omega) p1 (fun y hy d hd => by have := b1 y hy d hd; omega) l2 (s2.imp fun h => by omega) p2 (fun y hy d hd => by have := b2 y hy d hd; omega)
  refine ⟨l1, l2, ?_, ?_, md, ?_, P, S⟩
  · intro zs hz hs
    refine uniq ?_ ?_ ?_
    · exact ((List.reverse_perm lo).append_left hi).trans (hz.symm.trans (List.reverse_perm zs).symm)
    · exact S.sublist (List.Sublist.append_left (List.sublist_cons_self _ _) _)
    · exact List.pairwise_reverse.mpr hs
  all_goals
    have hp : ns.Perm ((hi ++ lo).reverse ++ [md]) := by
      refine P.symm.trans ?_
      refine List.perm_middle.trans ?_
      refine (List.perm_append_singleton _ _).symm.trans ?_
      refine List.Perm.append_right _ ?_
      exact ((List.reverse_perm lo).append_left hi).trans (List.reverse_perm _).symm
  · exact (uld_sub (m := []) hp).1
  · exact List.perm_singleton.mp (uld_sub (m := []) hp).2
end Mine
end
section
set_option maxRecDepth 100000
set_option maxHeartbeats 1000000
namespace Mine
theorem uldGo_snoc (x : Int) : ∀ (xs a m : List Int), uldGo (xs ++ [x]) a m = if x ∈ (uldGo xs a m).2 then ((uldGo xs a m).1, (uldGo xs a m).2.erase x) else ((uldGo xs a m).1 ++ [x], (uldGo xs a m).2)
  | [], a, m => by
    show uldGo [x] a m = _
    unfold uldGo uldGo
    rfl
  | y :: xs, a, m => by
    rw [List.cons_append]
    unfold uldGo
    by_cases h : y ∈ a
    · simp only [if_pos h]; exact uldGo_snoc x xs _ _
    · simp only [if_neg h]; exact uldGo_snoc x xs _ _
theorem uldGo_count (v : Int) : ∀ (xs a m : List Int), (uldGo xs a m).2.count v = a.count v - xs.count v
  | [], a, m => by simp [uldGo]
  | y :: xs, a, m => by
    unfold uldGo
    by_cases h : y ∈ a
    · rw [if_pos h, uldGo_count v xs, List.count_erase, List.count_cons]
      by_cases e : y = v
      · simp [e]; omega
      · simp [e]
    · rw [if_neg h, uldGo_count v xs, List.count_cons]
      by_cases e : y = v
      · subst e
        rw [List.count_eq_zero_of_not_mem h]
        simp
      · simp [e]
theorem uldGo_fst (x : Int) (xs a m : List Int) : (uldGo (xs ++ [x]) a m).1 = if ((a.count x : Nat) : Int) < (((xs ++ [x]).count x : Nat) : Int) then (uldGo xs a m).1 ++ [x] else (uldGo xs a m).1 := by
  rw [uldGo_snoc]
  have hc := uldGo_count x xs a m
  have h1 : (xs ++ [x]).count x = xs.count x + 1 := by rw [List.count_append]; simp
  by_cases h : x ∈ (uldGo xs a m).2
  · have := List.count_pos_iff.mpr h
    rw [if_pos h, if_neg (by omega)]
  · have := List.count_eq_zero_of_not_mem h
    rw [if_neg h, if_pos (by omega)]
theorem p1_of (a0 a2 a4 : Int) (A : List Int) : (uld [a0, a2, a4] A).1 = [2, 1, 0].foldl (missAt [a0, a2, a4] A) [] := by
  have e0 : (uldGo ([] : List Int) A []).1 = [] := rfl
  have e1 := uldGo_fst a4 [] A []
  have e2 := uldGo_fst a2 [a4] A []
  have e3 := uldGo_fst a0 [a4, a2] A []
  show (uldGo ([a4, a2] ++ [a0]) A []).1 = missAt [a0, a2, a4] A (missAt [a0, a2, a4] A (missAt [a0, a2, a4] A [] 2) 1) 0
  have c2 : ([a4] ++ [a2]).count a2 = [a2, a4].count a2 := List.Perm.count_eq (List.Perm.swap ..) _
  have c3 : ([a4, a2] ++ [a0]).count a0 = [a0, a2, a4].count a0 := List.Perm.count_eq (List.reverse_perm [a0, a2, a4]) _
  rw [e3, show (uldGo [a4, a2] A []).1 = _ from e2, show (uldGo [a4] A []).1 = _ from e1, c2, c3]
  rfl
/-- without the first c v of each value v -/
def keepL : (Int → Nat) → List Int → List Int
  | _, [] => []
  | c, x :: xs => if c x = 0 then x :: keepL c xs else keepL (fun v => if v = x then c v - 1 else c v) xs
theorem keep_erase (x : Int) : ∀ (A : List Int) (c : Int → Nat), (keepL c A).erase x = keepL (fun v => if v = x then c v + 1 else c v) A
  | [], c => rfl
  | y :: ys, c => by
    unfold keepL
    by_cases h : c y = 0
    · rw [if_pos h]
      by_cases e : y = x
      · subst e
        rw [List.erase_cons_head, if_neg (by simp)]
        congr 1
        funext v
        by_cases hv : v = y <;> simp [hv]
      · rw [List.erase_cons_tail (by simpa using e), if_pos (by simp [e, h]), keep_erase x ys]
    · rw [if_neg h, keep_erase x ys, if_neg (by by_cases e : y = x <;> simp [e, h])]
      congr 1
      funext v
      dsimp only
      have hvy : v = y → c v ≠ 0 := fun e => e ▸ h
      by_cases hv : v = y
      · have := hvy hv
        by_cases hx : v = x
        · rw [if_pos hx, if_pos hv, if_pos hv, if_pos hx]; omega
        · rw [if_neg hx, if_pos hv, if_pos hv, if_neg hx]
      · by_cases hx : v = x
        · rw [if_pos hx, if_neg hv, if_neg hv, if_pos hx]
        · rw [if_neg hx, if_neg hv, if_neg hv, if_neg hx]
theorem keep_fold (A : List Int) : ∀ (xs : List Int) (c : Int → Nat), xs.foldl List.erase (keepL c A) = keepL (fun v => c v + xs.count v) A
  | [], c => by simp
  | x :: xs, c => by
    rw [List.foldl_cons, keep_erase, keep_fold A xs]
    congr 1
    funext v
    rw [List.count_cons]
    by_cases h : v = x
    · simp [h]; omega
    · have : ¬ x = v := fun e => h e.symm
      simp [h, this]
theorem uldGo_snd : ∀ (xs a m : List Int), (uldGo xs a m).2 = xs.foldl List.erase a
  | [], a, m => rfl
  | x :: xs, a, m => by
    unfold uldGo
    by_cases h : x ∈ a
    · rw [if_pos h, uldGo_snd xs]; rfl
    · rw [if_neg h, uldGo_snd xs, List.foldl_cons, List.erase_of_not_mem h]
theorem keep_zero : ∀ A : List Int, keepL (fun _ => 0) A = A
  | [] => rfl
  | x :: xs => by
    unfold keepL
    rw [if_pos rfl, keep_zero xs]
theorem keep_cons (c : Int → Nat) (x : Int) (xs : List Int) : keepL c (x :: xs) = if c x = 0 then x :: keepL c xs else keepL (fun v => if v = x then c v - 1 else c v) xs := rfl
theorem keep1 (c : Int → Nat) (r : Int) : keepL c [r] = if c r < 1 then [r] else [] := by
  rw [keep_cons]
  by_cases h : c r = 0
  · rw [if_pos h, if_pos (by omega)]; rfl
  · rw [if_neg h, if_neg (by omega)]; rfl
theorem keep2 (c : Int → Nat) (q r : Int) : keepL c [q, r] = (if c q < 1 then [q] else []) ++ (if c r < (if q = r then 2 else 1) then [r] else []) := by
  rw [keep_cons]
  by_cases h : c q = 0
  · rw [if_pos h, if_pos (by omega), keep1]
    by_cases e : q = r
    · subst e
      rw [if_pos (by omega), if_pos rfl, if_pos (by omega)]; rfl
    · rw [if_neg e]; rfl
  · rw [if_neg h, if_neg (by omega), keep1]
    by_cases e : q = r
    · subst e
      rw [if_pos rfl, if_pos rfl]
      by_cases h2 : c q < 2
      · rw [if_pos (by omega), if_pos h2]; rfl
      · rw [if_neg (by omega), if_neg h2]; rfl
    · have e' : ¬ r = q := fun h => e h.symm
      rw [if_neg e', if_neg e]; rfl
theorem keep3' (c : Int → Nat) (p q r : Int) : keepL c [p, q, r] = (if c p < 1 then [p] else []) ++ ((if c q < (if p = q then 2 else 1) then [q] else []) ++ (if c r < (if p = r then 1 else 0) + (if q = r then 2 else 1) then [r] else [])) := by
  rw [keep_cons]
  by_cases h : c p = 0
  · rw [if_pos h, if_pos (show c p < 1 by omega), keep2]
    have e1 : (if c q < (if p = q then 2 else 1) then [q] else []) = if c q < 1 then [q] else [] := by
      by_cases e : p = q
      · subst e; rw [if_pos rfl, if_pos (by omega), if_pos (by omega)]
      · rw [if_neg e]
    have e2 : (if c r < (if p = r then 1 else 0) + (if q = r then 2 else 1) then [r] else []) = if c r < (if q = r then 2 else 1) then [r] else [] := by
      by_cases e : p = r
      · subst e
        by_cases e' : q = p
        · rw [if_pos rfl, if_pos e', if_pos (by omega), if_pos (by omega)]
        · rw [if_pos rfl, if_neg e', if_pos (by omega), if_pos (by omega)]
      · rw [if_neg e, Nat.zero_add]
    rw [e1, e2]; rfl
  · rw [if_neg h, if_neg (show ¬ c p < 1 by omega), keep2, List.nil_append]
    have e1 : (if (if q = p then c q - 1 else c q) < 1 then [q] else []) = if c q < (if p = q then 2 else 1) then [q] else [] := by
      by_cases e : p = q
      · subst e
        rw [if_pos rfl, if_pos rfl]
        by_cases h2 : c p < 2
        · rw [if_pos (by omega), if_pos h2]
        · rw [if_neg (by omega), if_neg h2]
      · have e' : ¬ q = p := fun h => e h.symm
        rw [if_neg e', if_neg e]
    have e2 : (if (if r = p then c r - 1 else c r) < (if q = r then 2 else 1) then [r] else []) = if c r < (if p = r then 1 else 0) + (if q = r then 2 else 1) then [r] else [] := by
      generalize (if q = r then 2 else 1) = z
      by_cases e : p = r
      · subst e
        rw [if_pos rfl, if_pos rfl]
        by_cases h2 : c p < 1 + z
        · rw [if_pos (by omega), if_pos h2]
        · rw [if_neg (by omega), if_neg h2]
      · have e' : ¬ r = p := fun h => e h.symm
        rw [if_neg e', if_neg e, Nat.zero_add]
    rw [e1, e2]
theorem keep3 (c : Int → Nat) (p q r : Int) : keepL c [p, q, r] = (if ((c p : Nat) : Int) < (([p].count p : Nat) : Int) then [p] else []) ++ ((if ((c q : Nat) : Int) < (([p, q].count q : Nat) : Int) then [q] else []) ++ (if ((c r : Nat) : Int) < (([p, q, r].count r : Nat) : Int) then [r] else [])) := by
  have c1 : [p].count p = 1 := by simp
  have c2 : [p, q].count q = if p = q then 2 else 1 := by
    by_cases e : p = q <;> simp [List.count_cons, e]
  have c3 : [p, q, r].count r = (if p = r then 1 else 0) + (if q = r then 2 else 1) := by
    by_cases e : p = r <;> by_cases e' : q = r <;> simp [List.count_cons, e, e']
  rw [c1, c2, c3, keep3']
  simp only [Int.ofNat_lt]
theorem p2_of (a0 a1 a2 a3 a4 a5 : Int) : (uld [a0, a2, a4] [a1, a3, a5]).2 = [0, 1, 2].foldl (leftAt [a0, a2, a4] [a1, a3, a5]) [] := by
  show (uldGo [a0, a2, a4].reverse [a1, a3, a5] []).2 = leftAt [a0, a2, a4] [a1, a3, a5] (leftAt [a0, a2, a4] [a1, a3, a5] (leftAt [a0, a2, a4] [a1, a3, a5] [] 0) 1) 2
  rw [uldGo_snd]
  have h := keep_fold [a1, a3, a5] [a0, a2, a4].reverse (fun _ => 0)
  rw [keep_zero] at h
  rw [h]
  have hc : (fun v => 0 + [a0, a2, a4].reverse.count v) = fun v => [a0, a2, a4].count v := by
    funext v
    rw [Nat.zero_add, List.Perm.count_eq (List.reverse_perm _)]
  rw [hc, keep3]
  have u : ∀ (l : List Int) (k : Int), leftAt [a0, a2, a4] [a1, a3, a5] l k = l ++ (if (([a0, a2, a4].count ([a1, a3, a5].getD k.toNat 0) : Nat) : Int) < ((([a1, a3, a5].take (k.toNat + 1)).count ([a1, a3, a5].getD k.toNat 0) : Nat) : Int) then [[a1, a3, a5].getD k.toNat 0] else []) := by
    intro l k
    unfold leftAt
    split <;> simp
  rw [u, u, u, List.nil_append, List.append_assoc]
  rfl
theorem uldGo_len : ∀ (xs a m : List Int), (uldGo xs a m).1.length ≤ m.length + xs.length ∧ (uldGo xs a m).2.length ≤ a.length
  | [], a, m => by simp [uldGo]
  | x :: xs, a, m => by
    unfold uldGo
    by_cases h : x ∈ a
    · rw [if_pos h]
      have := uldGo_len xs (a.erase x) m
      have h2 := List.length_erase_of_mem h
      simp only [List.length_cons]
      omega
    · rw [if_neg h]
      have := uldGo_len xs a (m ++ [x])
      simp only [List.length_append, List.length_cons, List.length_nil] at *
      omega
end Mine
end
section
set_option maxRecDepth 100000
set_option maxHeartbeats 2000000
namespace Mine
def ab (x : Int) : Int := if 0 ≤ x then x else -x
def ind (h g : Int) : Int := if h ≤ g then 1 else 0
def sumG (f : Int → Int) : Int := ((List.range 13).map fun g : Nat => f (g : Int)).sum
theorem sumG_eq (f : Int → Int) : sumG f = f 0 + f 1 + f 2 + f 3 + f 4 + f 5 + f 6 + f 7 + f 8 + f 9 + f 10 + f 11 + f 12 := by
  show f 0 + (f 1 + (f 2 + (f 3 + (f 4 + (f 5 + (f 6 + (f 7 + (f 8 + (f 9 + (f 10 + (f 11 + (f 12 + 0)))))))))))) = _
  omega
def pos (g0 h : Int) : Int := (h - g0 - 1) % 13
def ips (g0 h g : Int) : Int := if pos g0 h ≤ pos g0 g then 1 else 0
def cc (h t : Int) : Int := ind h 0 - ind t 0 - over 0 h t
theorem fin13 {x : Int} (h : 0 ≤ x ∧ x < 13) : ∃ f : Fin 13, x = ((f.val : Nat) : Int) := ⟨⟨x.toNat, by omega⟩, by show x = ((x.toNat : Nat) : Int); omega⟩
theorem factA0 : ∀ h t g : Fin 13, over ((g.val : Nat) : Int) ((h.val : Nat) : Int) ((t.val : Nat) : Int) = ind ((h.val : Nat) : Int) ((g.val : Nat) : Int) - ind ((t.val : Nat) : Int) ((g.val : Nat) : Int) - cc ((h.val : Nat) : Int) ((t.val : Nat) : Int) := by decide +kernel
theorem factB0 : ∀ h t : Fin 13, sumG (fun g => ab (over g ((h.val : Nat) : Int) ((t.val : Nat) : Int))) = stepMin ((h.val : Nat) : Int) ((t.val : Nat) : Int) := by decide +kernel
theorem factC0 : ∀ g0 h g : Fin 13, ips ((g0.val : Nat) : Int) ((h.val : Nat) : Int) ((g.val : Nat) : Int) = ind ((h.val : Nat) : Int) ((g.val : Nat) : Int) - ind ((h.val : Nat) : Int) ((g0.val : Nat) : Int) + (if ((g.val : Nat) : Int) ≤ ((g0.val : Nat) : Int) then 1 else 0) := by decide +kernel
theorem factD0 : ∀ h t : Fin 13, ∀ c : Fin 3, stepMin ((h.val : Nat) : Int) ((t.val : Nat) : Int) ≤ sumG (fun g => ab (ind ((h.val : Nat) : Int) g - ind ((t.val : Nat) : Int) g - (((c.val : Nat) : Int) - 1))) := by decide +kernel
end Mine
end
section
set_option maxRecDepth 100000
set_option maxHeartbeats 2000000
namespace Mine
abbrev In13 (x : Int) : Prop := 0 ≤ x ∧ x < 13
theorem factA {h t g : Int} (hh : In13 h) (ht : In13 t) (hg : In13 g) : over g h t = ind h g - ind t g - cc h t := by
  obtain ⟨a, rfl⟩ := fin13 hh
  obtain ⟨b, rfl⟩ := fin13 ht
  obtain ⟨c, rfl⟩ := fin13 hg
  exact factA0 a b c
theorem factB {h t : Int} (hh : In13 h) (ht : In13 t) : sumG (fun g => ab (over g h t)) = stepMin h t := by
  obtain ⟨a, rfl⟩ := fin13 hh
  obtain ⟨b, rfl⟩ := fin13 ht
  exact factB0 a b
theorem factC {g0 h g : Int} (h0 : In13 g0) (hh : In13 h) (hg : In13 g) : ips g0 h g = ind h g - ind h g0 + (if g ≤ g0 then 1 else 0) := by
  obtain ⟨a, rfl⟩ := fin13 h0
  obtain ⟨b, rfl⟩ := fin13 hh
  obtain ⟨c, rfl⟩ := fin13 hg
  exact factC0 a b c
theorem le_ab (x : Int) : x ≤ ab x ∧ -x ≤ ab x := by
  unfold ab
  split <;> omega
theorem ab_le {x y : Int} (h : x ≤ y) (k : -x ≤ y) : ab x ≤ y := by
  unfold ab
  split
  · exact h
  · exact k
theorem ab_tri (x y z : Int) : ab (x + y + z) ≤ ab x + ab y + ab z :=
  ab_le (Int.add_le_add (Int.add_le_add (le_ab x).1 (le_ab y).1) (le_ab z).1) (by rw [Int.neg_add, Int.neg_add]; exact Int.add_le_add (Int.add_le_add (le_ab x).2 (le_ab y).2) (le_ab z).2)
theorem ab_pair {h l m : Int} (c : Int) (h1 : m ≤ h) (h2 : l ≤ m) : ab (h - m) + ab (l - m) ≤ ab (h - c) + ab (l - c) := by
  have a := (le_ab (h - c)).1
  have b := (le_ab (l - c)).2
  have e : ab (h - m) ≤ h - m := ab_le (Int.le_refl _) (by omega)
  have f : ab (l - m) ≤ -(l - m) := ab_le (by omega) (Int.le_refl _)
  omega
theorem ab_pos {x : Int} (h : x ≠ 0) : 0 < ab x := by
  unfold ab
  split <;> omega
theorem ab_zero : ab 0 = 0 := rfl
theorem sum_mono {f g : Nat → Int} : ∀ {l : List Nat}, (∀ x ∈ l, f x ≤ g x) → (l.map f).sum ≤ (l.map g).sum
  | [], _ => Int.le_refl _
  | x :: l, h => by
    rw [List.map_cons, List.map_cons, List.sum_cons, List.sum_cons]
    exact Int.add_le_add (h _ (.head _)) (sum_mono fun y hy => h y (.tail _ hy))
theorem sum_add (f g : Nat → Int) : ∀ l : List Nat, (l.map fun x => f x + g x).sum = (l.map f).sum + (l.map g).sum
  | [] => rfl
  | x :: l => by
    rw [List.map_cons, List.map_cons, List.map_cons, List.sum_cons, List.sum_cons, List.sum_cons, sum_add f g l]
    omega
theorem sumG_mono {f g : Int → Int} (h : ∀ x, In13 x → f x ≤ g x) : sumG f ≤ sumG g :=
  sum_mono fun x hx => h _ ⟨Int.natCast_nonneg x, Int.ofNat_lt.mpr (List.mem_range.mp hx)⟩
theorem sumG_congr {f g : Int → Int} (h : ∀ x, In13 x → f x = g x) : sumG f = sumG g := Int.le_antisymm (sumG_mono fun x hx => Int.le_of_eq (h x hx)) (sumG_mono fun x hx => Int.le_of_eq (h x hx).symm)
theorem factD {g0 h t : Int} (h0 : In13 g0) (hh : In13 h) (ht : In13 t) : stepMin h t ≤ sumG (fun g => ab (ips g0 h g - ips g0 t g)) := by
  have e : sumG (fun g => ab (ips g0 h g - ips g0 t g)) = sumG (fun g => ab (ind h g - ind t g - (ind h g0 - ind t g0))) := sumG_congr fun g hg => by
    rw [factC h0 hh hg, factC h0 ht hg]
    exact congrArg ab (by omega)
  have hc : ∃ c : Fin 3, ind h g0 - ind t g0 = ((c.val : Nat) : Int) - 1 := by
    unfold ind
    split <;> split
    · exact ⟨1, rfl⟩
    · exact ⟨2, rfl⟩
    · exact ⟨0, rfl⟩
    · exact ⟨1, rfl⟩
  obtain ⟨c, hc⟩ := hc
  rw [e, hc]
  clear e hc
  obtain ⟨a, rfl⟩ := fin13 hh
  obtain ⟨b, rfl⟩ := fin13 ht
  exact factD0 a b c
theorem sumG_add3 (f g k : Int → Int) : sumG (fun x => f x + g x + k x) = sumG f + sumG g + sumG k :=
  (sum_add (fun x => f x + g x) (fun x => k x) _).trans (congrArg (· + sumG k) (sum_add (fun x => f x) (fun x => g x) _))
def Co (x0 z0 x1 z1 : Int) : Prop := (x0 ≤ x1 ∧ z0 ≤ z1) ∨ (x1 ≤ x0 ∧ z1 ≤ z0)
theorem Co.symm {x0 z0 x1 z1 : Int} (h : Co x0 z0 x1 z1) : Co x1 z1 x0 z0 := h.elim .inr .inl
def Co3 (x0 x1 x2 z0 z1 z2 : Int) : Prop := Co x0 z0 x1 z1 ∧ Co x0 z0 x2 z2 ∧ Co x1 z1 x2 z2
def CoS (x0 x1 x2 y0 y1 y2 : Int) : Prop := Co3 x0 x1 x2 y0 y1 y2 ∨ Co3 x0 x1 x2 y0 y2 y1 ∨ Co3 x0 x1 x2 y1 y0 y2 ∨ Co3 x0 x1 x2 y1 y2 y0 ∨ Co3 x0 x1 x2 y2 y0 y1 ∨ Co3 x0 x1 x2 y2 y1 y0
theorem CoS.swap01 {x0 x1 x2 y0 y1 y2 : Int} : CoS x0 x1 x2 y0 y1 y2 → CoS x0 x1 x2 y1 y0 y2
  | .inl h => .inr (.inr (.inl h))
  | .inr (.inl h) => .inr (.inr (.inr (.inl h)))
  | .inr (.inr (.inl h)) => .inl h
  | .inr (.inr (.inr (.inl h))) => .inr (.inl h)
  | .inr (.inr (.inr (.inr (.inl h)))) => .inr (.inr (.inr (.inr (.inr h))))
  | .inr (.inr (.inr (.inr (.inr h)))) => .inr (.inr (.inr (.inr (.inl h))))
theorem CoS.swap12 {x0 x1 x2 y0 y1 y2 : Int} : CoS x0 x1 x2 y0 y1 y2 → CoS x0 x1 x2 y0 y2 y1
  | .inl h => .inr (.inl h)
  | .inr (.inl h) => .inl h
  | .inr (.inr (.inl h)) => .inr (.inr (.inr (.inr (.inl h))))
  | .inr (.inr (.inr (.inl h))) => .inr (.inr (.inr (.inr (.inr h))))
  | .inr (.inr (.inr (.inr (.inl h)))) => .inr (.inr (.inl h))
  | .inr (.inr (.inr (.inr (.inr h)))) => .inr (.inr (.inr (.inl h)))
theorem co_sorted (x0 x1 x2 : Int) {y0 y1 y2 : Int} (k : y0 ≤ y1) (l : y1 ≤ y2) : CoS x0 x1 x2 y0 y1 y2 := by
  have n := Int.le_trans k l
  rcases Int.le_total x0 x1 with a | a
  · rcases Int.le_total x1 x2 with b | b
    · exact .inl ⟨.inl ⟨a, k⟩, .inl ⟨Int.le_trans a b, n⟩, .inl ⟨b, l⟩⟩
    · rcases Int.le_total x0 x2 with c | c
      · exact .inr (.inl ⟨.inl ⟨a, n⟩, .inl ⟨c, k⟩, .inr ⟨b, l⟩⟩)
      · exact .inr (.inr (.inr (.inl ⟨.inl ⟨a, l⟩, .inr ⟨c, k⟩, .inr ⟨b, n⟩⟩)))
  · rcases Int.le_total x0 x2 with c | c
    · exact .inr (.inr (.inl ⟨.inr ⟨a, k⟩, .inl ⟨c, l⟩, .inl ⟨Int.le_trans a c, n⟩⟩))
    · rcases Int.le_total x1 x2 with b | b
      · exact .inr (.inr (.inr (.inr (.inl ⟨.inr ⟨a, n⟩, .inr ⟨c, l⟩, .inl ⟨b, k⟩⟩))))
      · exact .inr (.inr (.inr (.inr (.inr ⟨.inr ⟨a, l⟩, .inr ⟨c, n⟩, .inr ⟨b, k⟩⟩))))
theorem co_some (x0 x1 x2 y0 y1 y2 : Int) : CoS x0 x1 x2 y0 y1 y2 := by
  rcases Int.le_total y0 y1 with a | a
  · rcases Int.le_total y1 y2 with b | b
    · exact co_sorted _ _ _ a b
    · rcases Int.le_total y0 y2 with c | c
      · exact (co_sorted _ _ _ c b).swap12
      · exact (co_sorted _ _ _ c a).swap01.swap12
  · rcases Int.le_total y0 y2 with c | c
    · exact (co_sorted _ _ _ a c).swap01
    · rcases Int.le_total y1 y2 with b | b
      · exact (co_sorted _ _ _ b c).swap12.swap01
      · exact (co_sorted _ _ _ b a).swap12.swap01.swap12
/-- two pairs that run along: the signs do not part -/
def ok2 (p0 q0 p1 q1 : Bool) : Bool := !(p0 && !q0 && !p1 && q1) && !(!p0 && q0 && p1 && !q1)
theorem Co.ok {x0 z0 x1 z1 : Int} (h : Co x0 z0 x1 z1) (u : Int) : ok2 (decide (x0 ≤ u)) (decide (z0 ≤ u)) (decide (x1 ≤ u)) (decide (z1 ≤ u)) = true := by
  have key : ∀ a b c d : Bool, ((b = true → a = true) ∧ (d = true → c = true)) ∨ ((a = true → b = true) ∧ (c = true → d = true)) → ok2 a c b d = true := by decide
  refine key _ _ _ _ (h.imp (fun h => ⟨fun e => ?_, fun e => ?_⟩) fun h => ⟨fun e => ?_, fun e => ?_⟩)
  · exact decide_eq_true (Int.le_trans h.1 (of_decide_eq_true e))
  · exact decide_eq_true (Int.le_trans h.2 (of_decide_eq_true e))
  · exact decide_eq_true (Int.le_trans h.1 (of_decide_eq_true e))
  · exact decide_eq_true (Int.le_trans h.2 (of_decide_eq_true e))
def b2i (b : Bool) : Int := if b = true then 1 else 0
theorem b2i_of (x u : Int) : (if x ≤ u then 1 else 0 : Int) = b2i (decide (x ≤ u)) := by
  unfold b2i
  by_cases h : x ≤ u
  · rw [if_pos h, if_pos (decide_eq_true h)]
  · rw [if_neg h, if_neg (by rw [decide_eq_false h]; decide)]
theorem co_bool : ∀ p0 p1 p2 q0 q1 q2 : Bool, ok2 p0 q0 p1 q1 = true → ok2 p0 q0 p2 q2 = true → ok2 p1 q1 p2 q2 = true →
    ab (b2i p0 + b2i p1 + b2i p2 - (b2i q0 + b2i q1 + b2i q2)) = ab (b2i p0 - b2i q0) + ab (b2i p1 - b2i q1) + ab (b2i p2 - b2i q2) := by decide
theorem co_abs {x0 x1 x2 z0 z1 z2 : Int} (h : Co3 x0 x1 x2 z0 z1 z2) (u : Int) :
    ab ((if x0 ≤ u then 1 else 0) + (if x1 ≤ u then 1 else 0) + (if x2 ≤ u then 1 else 0) - ((if z0 ≤ u then 1 else 0) + (if z1 ≤ u then 1 else 0) + (if z2 ≤ u then 1 else 0))) =
      ab ((if x0 ≤ u then 1 else 0) - (if z0 ≤ u then 1 else 0)) + ab ((if x1 ≤ u then 1 else 0) - (if z1 ≤ u then 1 else 0)) + ab ((if x2 ≤ u then 1 else 0) - (if z2 ≤ u then 1 else 0)) := by
  rw [b2i_of, b2i_of, b2i_of, b2i_of, b2i_of, b2i_of]
  exact co_bool _ _ _ _ _ _ (h.1.ok u) (h.2.1.ok u) (h.2.2.ok u)
section
variable {a0 a1 a2 a3 a4 a5 : Int}
/-- the level by the ones and the others themselves -/
def lev (a0 a1 a2 a3 a4 a5 g : Int) : Int := ind a0 g + ind a2 g + ind a4 g - (ind a1 g + ind a3 g + ind a5 g)
def D (a0 a1 a2 a3 a4 a5 c : Int) : Int := sumG (fun g => ab (lev a0 a1 a2 a3 a4 a5 g - c))
theorem flow3 (h0 h1 h2 t0 t1 t2 g : Int) : flowAt [h0, h1, h2] [t0, t1, t2] g = over g h0 t0 + over g h1 t1 + over g h2 t2 := by
  show over g h0 t0 + (over g h1 t1 + (over g h2 t2 + 0)) = _
  omega
theorem cost3 (h0 h1 h2 t0 t1 t2 : Int) : costOf [h0, h1, h2] [t0, t1, t2] = stepMin h0 t0 + stepMin h1 t1 + stepMin h2 t2 := by
  show stepMin h0 t0 + (stepMin h1 t1 + (stepMin h2 t2 + 0)) = _
  omega
/-- each order: its flow is the level less a number, and its cost is no less than that number's -/
theorem order_low (b0 : In13 a0) (b2 : In13 a2) (b4 : In13 a4) {t0 t1 t2 : Int} (c0 : In13 t0) (c1 : In13 t1) (c2 : In13 t2) (hs : ∀ g, ind t0 g + ind t1 g + ind t2 g = ind a1 g + ind a3 g + ind a5 g) :
    ∃ c, (∀ g, In13 g → flowAt [a0, a2, a4] [t0, t1, t2] g = lev a0 a1 a2 a3 a4 a5 g - c) ∧ D a0 a1 a2 a3 a4 a5 c ≤ costOf [a0, a2, a4] [t0, t1, t2] := by
  have hf : ∀ g, In13 g → flowAt [a0, a2, a4] [t0, t1, t2] g = lev a0 a1 a2 a3 a4 a5 g - (cc a0 t0 + cc a2 t1 + cc a4 t2) := by
    intro g hg
    rw [flow3, factA b0 c0 hg, factA b2 c1 hg, factA b4 c2 hg]
    unfold lev
    have := hs g
    omega
  refine ⟨_, hf, ?_⟩
  rw [cost3, ← factB b0 c0, ← factB b2 c1, ← factB b4 c2, ← sumG_add3]
  refine sumG_mono fun g hg => ?_
  rw [← hf g hg, flow3]
  exact ab_tri _ _ _
/-- the order that runs along with the places behind the gap g0 -/
theorem order_high (b0 : In13 a0) (b2 : In13 a2) (b4 : In13 a4) {t0 t1 t2 g0 : Int} (h0 : In13 g0) (c0 : In13 t0) (c1 : In13 t1) (c2 : In13 t2) (hs : ∀ g, ind t0 g + ind t1 g + ind t2 g = ind a1 g + ind a3 g + ind a5 g)
    (hc : Co3 (pos g0 a0) (pos g0 a2) (pos g0 a4) (pos g0 t0) (pos g0 t1) (pos g0 t2)) : costOf [a0, a2, a4] [t0, t1, t2] ≤ D a0 a1 a2 a3 a4 a5 (lev a0 a1 a2 a3 a4 a5 g0) := by
  have e : D a0 a1 a2 a3 a4 a5 (lev a0 a1 a2 a3 a4 a5 g0) = sumG (fun g => ab (ips g0 a0 g - ips g0 t0 g) + ab (ips g0 a2 g - ips g0 t1 g) + ab (ips g0 a4 g - ips g0 t2 g)) := by
    refine sumG_congr fun g hg => ?_
    have hx := co_abs hc (pos g0 g)
    have e1 : lev a0 a1 a2 a3 a4 a5 g - lev a0 a1 a2 a3 a4 a5 g0 = ips g0 a0 g + ips g0 a2 g + ips g0 a4 g - (ips g0 t0 g + ips g0 t1 g + ips g0 t2 g) := by
      rw [factC h0 b0 hg, factC h0 b2 hg, factC h0 b4 hg, factC h0 c0 hg, factC h0 c1 hg, factC h0 c2 hg]
      unfold lev
      have s1 := hs g
      have s2 := hs g0
      omega
    rw [e1]
    exact hx
  rw [e, sumG_add3, cost3]
  have d1 := factD h0 b0 c0
  have d2 := factD h0 b2 c1
  have d3 := factD h0 b4 c2
  omega
end
end Mine
end
section
set_option maxRecDepth 100000
set_option maxHeartbeats 2000000
namespace Mine
theorem uld_common : ∀ (xs a m : List Int), ∃ cm : List Int, (m ++ xs).Perm ((uldGo xs a m).1 ++ cm) ∧ a.Perm ((uldGo xs a m).2 ++ cm)
  | [], a, m => ⟨[], by simp [uldGo], by simp [uldGo]⟩
  | x :: xs, a, m => by
    unfold uldGo
    by_cases h : x ∈ a
    · rw [if_pos h]
      obtain ⟨cm, h1, h2⟩ := uld_common xs (a.erase x) m
      refine ⟨x :: cm, ?_, ?_⟩
      · exact List.perm_middle.trans ((h1.cons x).trans List.perm_middle.symm)
      · exact (List.perm_cons_erase h).trans ((h2.cons x).trans List.perm_middle.symm)
    · rw [if_neg h]
      obtain ⟨cm, h1, h2⟩ := uld_common xs a (m ++ [x])
      refine ⟨cm, ?_, h2⟩
      have e : m ++ x :: xs = m ++ [x] ++ xs := by simp
      rw [e]
      exact h1
theorem cnt3 (x y z g : Int) : ((([x, y, z].filter fun v => decide (v ≤ g)).length : Nat) : Int) = ind x g + ind y g + ind z g := by
  unfold ind
  by_cases h1 : x ≤ g <;> by_cases h2 : y ≤ g <;> by_cases h3 : z ≤ g <;> simp [h1, h2, h3]
theorem level_eq (a0 a1 a2 a3 a4 a5 g : Int) : level (uld [a0, a2, a4] [a1, a3, a5]).1 (uld [a0, a2, a4] [a1, a3, a5]).2 g = lev a0 a1 a2 a3 a4 a5 g := by
  obtain ⟨cm, h1, h2⟩ := uld_common [a0, a2, a4].reverse [a1, a3, a5] []
  have e1 := ((List.reverse_perm [a0, a2, a4]).symm.trans h1 |>.filter fun v => decide (v ≤ g)).length_eq
  have e2 := (h2.filter fun v => decide (v ≤ g)).length_eq
  rw [List.filter_append, List.length_append] at e1 e2
  have c1 := cnt3 a0 a2 a4 g
  have c2 := cnt3 a1 a3 a5 g
  show ((((uldGo [a0, a2, a4].reverse [a1, a3, a5] []).1.filter fun v => decide (v ≤ g)).length : Nat) : Int) - ((((uldGo [a0, a2, a4].reverse [a1, a3, a5] []).2.filter fun v => decide (v ≤ g)).length : Nat) : Int) = _
  unfold lev
  omega
theorem levels_eq (a0 a1 a2 a3 a4 a5 : Int) : levelsTo (uld [a0, a2, a4] [a1, a3, a5]).1 (uld [a0, a2, a4] [a1, a3, a5]).2 13 = (List.range 13).map fun g : Nat => lev a0 a1 a2 a3 a4 a5 (g : Int) := by
  unfold levelsTo
  exact List.map_congr_left fun g _ => level_eq a0 a1 a2 a3 a4 a5 g
theorem D_sum (a0 a1 a2 a3 a4 a5 c : Int) : D a0 a1 a2 a3 a4 a5 c = (((List.range 13).map fun g : Nat => lev a0 a1 a2 a3 a4 a5 (g : Int)).map fun x => ab (x - c)).sum := by
  unfold D sumG
  rw [List.map_map]
  rfl
theorem sum_perm {l l' : List Int} (h : l.Perm l') : l.sum = l'.sum := by
  induction h with
  | nil => rfl
  | cons x _ ih => rw [List.sum_cons, List.sum_cons, ih]
  | swap x y l => rw [List.sum_cons, List.sum_cons, List.sum_cons, List.sum_cons]; omega
  | trans _ _ h1 h2 => exact h1.trans h2
theorem med_le (c md : Int) : ∀ (hs ls : List Int), hs.length = ls.length → (∀ x ∈ hs, md ≤ x) → (∀ x ∈ ls, x ≤ md) →
    (hs.map fun x => ab (x - md)).sum + (ls.map fun x => ab (x - md)).sum ≤ (hs.map fun x => ab (x - c)).sum + (ls.map fun x => ab (x - c)).sum
  | [], [], _, _, _ => Int.le_refl _
  | h :: hs, l :: ls, e, p, q => by
    have a := med_le c md hs ls (Nat.succ.inj e) (fun x hx => p x (.tail _ hx)) fun x hx => q x (.tail _ hx)
    have b := ab_pair c (p h (.head _)) (q l (.head _))
    rw [List.map_cons, List.map_cons, List.map_cons, List.map_cons, List.sum_cons, List.sum_cons, List.sum_cons, List.sum_cons]
    clear p q e
    generalize (hs.map fun x => ab (x - md)).sum = s1 at a ⊢
    generalize (ls.map fun x => ab (x - md)).sum = s2 at a ⊢
    generalize (hs.map fun x => ab (x - c)).sum = s3 at a ⊢
    generalize (ls.map fun x => ab (x - c)).sum = s4 at a ⊢
    omega
  | [], _ :: _, e, _, _ => nomatch e
  | _ :: _, [], e, _, _ => nomatch e
theorem sum_mid (f : Int → Int) (hi lr : List Int) (md : Int) : ((hi ++ md :: lr).map f).sum = (hi.map f).sum + (lr.map f).sum + f md := by
  rw [List.map_append, List.sum_append, List.map_cons, List.sum_cons, Int.add_comm (f md), Int.add_assoc]
/-- only the middle number is nearest to all thirteen -/
theorem median {ns hi lo : List Int} {md c : Int} (l1 : hi.length = 6) (l2 : lo.length = 6) (P : (hi ++ md :: lo.reverse).Perm ns) (S : (hi ++ md :: lo.reverse).Pairwise (fun a b => b ≤ a))
    (h : (ns.map fun x => ab (x - c)).sum ≤ (ns.map fun x => ab (x - md)).sum) : c = md := by
  rw [← sum_perm (P.map fun x => ab (x - c)), ← sum_perm (P.map fun x => ab (x - md)), sum_mid, sum_mid, Int.sub_self, ab_zero, Int.add_zero] at h
  have q := List.pairwise_append.mp S
  have k := med_le c md hi lo.reverse (by rw [List.length_reverse, l1, l2]) (fun x hx => q.2.2 x hx md (.head _)) (List.pairwise_cons.mp q.2.1).1
  by_cases e : md - c = 0
  · exact (Int.eq_of_sub_eq_zero e).symm
  · exact absurd (Int.lt_of_lt_of_le (Int.lt_add_of_pos_right _ (ab_pos e)) (Int.le_trans h k)) (Int.lt_irrefl _)
theorem plain_best {a0 a1 a2 a3 a4 a5 md : Int} {hi lo : List Int} (b0 : In13 a0) (b1 : In13 a1) (b2 : In13 a2) (b3 : In13 a3) (b4 : In13 a4) (b5 : In13 a5) (l1 : hi.length = 6) (l2 : lo.length = 6)
    (P : (hi ++ md :: lo.reverse).Perm ((List.range 13).map fun g : Nat => lev a0 a1 a2 a3 a4 a5 (g : Int))) (S : (hi ++ md :: lo.reverse).Pairwise (fun a b => b ≤ a)) {k : Nat} (hk : k < 6)
    (hmin : ∀ x ∈ (ords a1 a3 a5).map (costOf [a0, a2, a4]), ((ords a1 a3 a5).map (costOf [a0, a2, a4])).getD k 0 ≤ x) :
    flowOf [a0, a2, a4] ((ords a1 a3 a5).getD k []) = ((List.range 13).map fun g : Nat => lev a0 a1 a2 a3 a4 a5 (g : Int)).map fun x => x - md := by
  obtain ⟨g, hg, hgm⟩ := List.mem_map.mp (P.mem_iff.mp (List.mem_append_right _ (.head _)))
  have hg13 : In13 (g : Int) := ⟨Int.natCast_nonneg g, Int.ofNat_lt.mpr (List.mem_range.mp hg)⟩
  have up : ∀ {t0 t1 t2 : Int}, [t0, t1, t2] ∈ ords a1 a3 a5 → In13 t0 → In13 t1 → In13 t2 → (∀ g, ind t0 g + ind t1 g + ind t2 g = ind a1 g + ind a3 g + ind a5 g) → Co3 (pos g a0) (pos g a2) (pos g a4) (pos g t0) (pos g t1) (pos g t2) →
      ((ords a1 a3 a5).map (costOf [a0, a2, a4])).getD k 0 ≤ D a0 a1 a2 a3 a4 a5 md :=
    fun ho c0 c1 c2 hs hc => Int.le_trans (hmin _ (List.mem_map.mpr ⟨_, ho, rfl⟩)) (by rw [← hgm]; exact order_high b0 b2 b4 hg13 c0 c1 c2 hs hc)
  have s1 : ∀ x y z : Int, x + z + y = x + y + z := fun x y z => Int.add_right_comm x z y
  have s2 : ∀ x y z : Int, y + x + z = x + y + z := fun x y z => by rw [Int.add_comm y x]
  have hbest : ((ords a1 a3 a5).map (costOf [a0, a2, a4])).getD k 0 ≤ D a0 a1 a2 a3 a4 a5 md :=
    (co_some (pos g a0) (pos g a2) (pos g a4) (pos g a1) (pos g a3) (pos g a5)).elim (up (.head _) b1 b3 b5 fun _ => rfl) fun h => h.elim (up (.tail _ (.head _)) b1 b5 b3 fun _ => s1 _ _ _)
      fun h => h.elim (up (.tail _ (.tail _ (.head _))) b3 b1 b5 fun _ => s2 _ _ _) fun h => h.elim (up (.tail _ (.tail _ (.tail _ (.head _)))) b3 b5 b1 fun _ => (s1 _ _ _).trans (s2 _ _ _))
      fun h => h.elim (up (.tail _ (.tail _ (.tail _ (.tail _ (.head _))))) b5 b1 b3 fun _ => (s2 _ _ _).trans (s1 _ _ _)) (up (.tail _ (.tail _ (.tail _ (.tail _ (.tail _ (.head _)))))) b5 b3 b1 fun _ => ((s1 _ _ _).trans (s2 _ _ _)).trans (s1 _ _ _))
  have low : ∃ c, (∀ g, In13 g → flowAt [a0, a2, a4] ((ords a1 a3 a5).getD k []) g = lev a0 a1 a2 a3 a4 a5 g - c) ∧ D a0 a1 a2 a3 a4 a5 c ≤ ((ords a1 a3 a5).map (costOf [a0, a2, a4])).getD k 0 := by
    clear up hbest hmin P S hgm hg13
    match k, hk with
    | 0, _ => exact order_low b0 b2 b4 b1 b3 b5 (fun _ => rfl)
    | 1, _ => exact order_low b0 b2 b4 b1 b5 b3 (fun _ => s1 _ _ _)
    | 2, _ => exact order_low b0 b2 b4 b3 b1 b5 (fun _ => s2 _ _ _)
    | 3, _ => exact order_low b0 b2 b4 b3 b5 b1 (fun _ => (s1 _ _ _).trans (s2 _ _ _))
    | 4, _ => exact order_low b0 b2 b4 b5 b1 b3 (fun _ => (s2 _ _ _).trans (s1 _ _ _))
    | 5, _ => exact order_low b0 b2 b4 b5 b3 b1 (fun _ => ((s1 _ _ _).trans (s2 _ _ _)).trans (s1 _ _ _))
  clear up
  obtain ⟨c, hf, hD⟩ := low
  have hle := Int.le_trans hD hbest
  rw [D_sum, D_sum] at hle
  have hc : c = md := median l1 l2 P S hle
  subst hc
  unfold flowOf
  rw [List.map_map]
  exact List.map_congr_left fun x hx => hf (x : Int) ⟨Int.natCast_nonneg x, Int.ofNat_lt.mpr (List.mem_range.mp hx)⟩
theorem plain_all : ∀ a0 a1 a2 a3 a4 a5 : Int, (0 ≤ a0 ∧ a0 < 13) → (0 ≤ a1 ∧ a1 < 13) → (0 ≤ a2 ∧ a2 < 13) → (0 ≤ a3 ∧ a3 < 13) → (0 ≤ a4 ∧ a4 < 13) → (0 ≤ a5 ∧ a5 < 13) → Plain a0 a1 a2 a3 a4 a5 := by
  intro a0 a1 a2 a3 a4 a5 b0 b1 b2 b3 b4 b5
  have hlen := uldGo_len [a0, a2, a4].reverse [a1, a3, a5] []
  refine ⟨p1_of a0 a2 a4 _, p2_of a0 a1 a2 a3 a4 a5, hlen.1, hlen.2, fun hi lo H Lw => ?_⟩
  have q := high_low (by unfold levelsTo; rw [List.length_map, List.length_range]) H Lw
  refine ⟨q.1, q.2.1, q.2.2.1, q.2.2.2.1, q.2.2.2.2.elim fun md z => ⟨md, z.1, fun k hk hmin => ?_⟩⟩
  have P := z.2.1
  rw [levels_eq] at P ⊢
  exact plain_best b0 b1 b2 b3 b4 b5 q.1 q.2.1 P z.2.2 hk hmin
end Mine
end
namespace Mine
open PySem PySem.W in
set_option maxRecDepth 100000 in
theorem noVE : NoName (Str.ofString "ValueError") hd.view_39 (looseW hd.view_39 [Str.ofString "nsmallest", Str.ofString "nlargest"]) := ⟨by decide +kernel, by decide +kernel, by decide +kernel, by decide +kernel⟩
end Mine
open PySem PySem.W PyProof.Rows
set_option maxRecDepth 100000 in
set_option maxHeartbeats 8000000 in
theorem PySem.Challenge.cw_mr0273_01_holds : PySem.Challenge.rw_mr0273_01.Holds := by
  k_with_none
  refine Mine.hd ?_
  k_go0
  rename_i w s₀ s₁ mg mb G Y fa o pm doc ho hg KX XM V GL T Tb TE TW ca cb M c1 c2 c3 sn hs hlay0 hL1 hr1 hl2 w12 w11 Sc sv w8 hL ra w1 r0 hI hr hcond hT K0 hD h1 tk1 F o8 o7 o6 o5 o4 o3 o2 o1 e8 e7 e6 e5 e4 e3 e2 e1 N0 X0
  refine Mine.law_body (w := w) (h₀ := s₁.heap) (L := s₁.heap.objs.size) (rest := []) (objs := []) (Sc := Sc) (sv := sv) (sn := sn) (m0 := fun _ => none) (o1 := o1) (o2 := o2) (o3 := o3) (o4 := o4) (o5 := o5) (o6 := o6) (o7 := o7) (o8 := o8) K0 KX T (by passes_own) Mine.noVE F ?n e1 e2 e3 e4 e5 e6 e7 e8 hL hI (by omega) ?dp ?un Mine.plain_all ?q
  case n => exact Mine.news_sub N0 (by kcf_all)
  case dp => decide
  case un => decide
  case q =>
    intro m' hF tk FF
    k_steps

