import PyProof.Rows.All
import Wide.All
import OpenK.AllK
import Wide.FinOn
import PySem.Challenge.RW_ah6005_01
open PySem PySem.W PyProof.Rows
set_option Elab.async false
set_option maxRecDepth 100000
set_option maxHeartbeats 8000000
namespace Mine
open_top hd for PySem.Challenge.rw_ah6005_01
end Mine
theorem Mine.freshD2 : (0 : Nat) = 0 := by
  w_top off
  first | walk1 | rfl
namespace Mine
open Classical

abbrev tupO (vs : List Value) : Obj := { cls := .type "tuple", data := .seq vs.toArray }

def klt (x y : Int × Int) : Prop := x.1 < y.1 ∨ (x.1 = y.1 ∧ x.2 < y.2)

theorem lt_tup2 {prog : Program} {w : World} {A : Around} {E : Value → Shared → Prop} {s : Shared} {a b : Addr} {a1 a2 b1 b2 : Int} {t1 t2 u1 u2 : Tok} {Q : Value → Shared → Prop}
    (ha : s.heap.get? a = some (tupO [.int a1 t1, .int a2 t2])) (hb : s.heap.get? b = some (tupO [.int b1 u1, .int b2 u2])) (hu : A.units < cLine)
    (h : Q (.bool (decide (klt (a1, a2) (b1, b2)))) s) : wpAny (model prog w) A (compareOp .Lt (.ref a) (.ref b)) Q E s := by
  have hTa : s.TypeIs (.ref a) "tuple" := ⟨_, ha, rfl⟩
  have hTb : s.TypeIs (.ref b) "tuple" := ⟨_, hb, rfl⟩
  refine cmp_ofLt (wpAny_richCompare_same_room hTa hTb PySem.F.slot_tuple_lt ?_ hu)
  refine wpAny_call_entry PySem.F.slot_tuple_lt hTa PySem.F.entry_tuple_lt ?_ (PySem.F.args_tuple_lt_2 _ _)
  show wpAny _ _ (isInstance (.ref b) (.type "tuple") >>= _) _ _ s
  refine wpAny_bind (wpAny_isInstance hTb isSubtype_tuple_tuple ?_)
  simp only [Bool.not_true, Bool.false_eq_true, if_false]
  refine wpAny_bind (wpAny_tupleItemsOf ha rfl ?_)
  refine wpAny_bind (wpAny_tupleItemsOf hb rfl ?_)
  simp only [List.zip_cons_cons, List.zip_nil_right, List.forIn_cons, List.forIn_nil]
  refine wpAny_bind (wpAny_bind (wpAny_bind (SeqAt.EqAt.int_int a1 t1 b1 u1 prog w _ _ ?_)))
  by_cases e1 : a1 = b1
  · subst e1
    simp only [beq_self_eq_true, Bool.not_true, Bool.false_eq_true, if_false]
    refine wpAny_pure ?_
    dsimp only
    refine wpAny_bind (wpAny_bind (SeqAt.EqAt.int_int a2 t2 b2 u2 prog w _ _ ?_))
    by_cases e2 : a2 = b2
    · subst e2
      simp only [beq_self_eq_true, Bool.not_true, Bool.false_eq_true, if_false]
      refine wpAny_pure ?_
      dsimp only
      refine wpAny_pure ?_
      dsimp only
      refine wpAny_pure ⟨_, rfl, (by intro q; cases q), ?_⟩
      have : ¬ klt (a1, a2) (a1, a2) := by unfold klt; simp
      rw [decide_eq_false this] at h
      exact h
    · have : (a2 == b2) = false := by simpa using e2
      simp only [this, Bool.not_false, if_true]
      refine wpAny_bind (wpAny_rule ?_)
      refine wpAny_bind (show wpAny _ _ (compareOp .Lt (.int a2 t2) (.int b2 u2)) _ _ _ from lt_int ?_)
      refine wpAny_bind (wpAny_pure ?_)
      refine wpAny_pure ?_
      dsimp only
      refine wpAny_pure ?_
      dsimp only
      refine wpAny_pure ⟨_, rfl, (by intro q; cases q), ?_⟩
      have : decide (klt (a1, a2) (a1, b2)) = decide (a2 < b2) := by unfold klt; simp
      rw [this] at h
      exact h
  · have : (a1 == b1) = false := by simpa using e1
    simp only [this, Bool.not_false, if_true]
    refine wpAny_bind (wpAny_rule ?_)
    refine wpAny_bind (show wpAny _ _ (compareOp .Lt (.int a1 t1) (.int b1 u1)) _ _ _ from lt_int ?_)
    refine wpAny_bind (wpAny_pure ?_)
    refine wpAny_pure ?_
    dsimp only
    refine wpAny_pure ?_
    dsimp only
    refine wpAny_pure ⟨_, rfl, (by intro q; cases q), ?_⟩
    have : decide (klt (a1, a2) (b1, b2)) = decide (a1 < b1) := by unfold klt; simp [e1]
    rw [this] at h
    exact h
end Mine
theorem Mine.freshD1 : (0 : Nat) = 0 := by
  w_top off
  first | walk1 | rfl
namespace Mine
def Ctr (w : World) (pp : Program) (ll : List Str) (mean : ExcName → Option Value) (mg mb : Str → Option Value) (bud : Nat) (f : Value) (args : List Value) (news : List (Addr × Obj)) (Post : Value → List (Addr × Obj) → Prop) : Prop :=
  ∀ (dp un : Nat) (gd : Option (List Code)) (cn : Str) (cs : Scope) (a : Addr) (ccd : Value) (cl : List (Str × Addr)) (outer : List Env) (A₀ : Around) (base h₀ : Heap) (L : Addr) (m : Str → Option Value) (s : Shared)
    (Q E : Value → Shared → Prop),
    Below A₀ base outer h₀ → Fr h₀ L s.heap m → (hd.heap_39 w.params).In h₀ → News h₀ L s.heap news → Top pp ll mean mg mb h₀ → cs.kind = .function → dp + bud < recursionLimit → un + 8 * bud < cLine →
    (∀ r news' h' tk', Fr h₀ L h' m → News h₀ L h' news' → Post r news' → Q r { s with heap := h', toks := tk' }) →
    wpAny (model PySem.Challenge.rw_ah6005_01.row.prog w) (ktrTop dp un gd cn cs L a ccd cl outer) (call f args) Q E s

def KeyV (tup : Bool) (news : List (Addr × Obj)) (v : Value) (k : Int × Int) : Prop :=
  if tup then ∃ p t1 t2, v = .ref p ∧ (p, tupO [.int k.1 t1, .int k.2 t2]) ∈ news else k.2 = 0 ∧ ∃ t, v = .int k.1 t

def Grows (news news' : List (Addr × Obj)) : Prop := ∃ ex, news' = ex ++ news ∧ ∀ p ∈ ex, p.2.cls = .type "tuple" ∧ ∀ q ∈ news, q.1 < p.1
theorem Grows.refl (news : List (Addr × Obj)) : Grows news news := ⟨[], rfl, fun _ h => nomatch h⟩

def keyOf (kind v : Int) : Int × Int :=
  if kind = 0 then (v, 0) else if kind = 1 then (v.fdiv 3, 0) else if kind = 2 then (0 - v, 0) else (v.fmod 3, v.fdiv 3)

def KeyPost (tup : Bool) (k : Int × Int) (news : List (Addr × Obj)) (r : Value) (news' : List (Addr × Obj)) : Prop :=
  ∃ ex, news' = ex ++ news ∧ KeyV tup ex r k ∧ ∀ p ∈ ex, p.2.cls = .type "tuple" ∧ ∀ q ∈ news, q.1 < p.1

theorem ctr_key {w : World} {pp : Program} {ll : List Str} {mean : ExcName → Option Value} {mg mb : Str → Option Value} {news : List (Addr × Obj)} {k v : Int} {t u : Tok} (h0 : 0 ≤ k) (h4 : k < 4) :
    Ctr w pp ll mean mg mb 2 (.ref 63) [.int k t, .int v u] news (KeyPost (decide (k = 3)) (keyOf k v) news) := by
  unfold Ctr
  k_fill
  intro dp un gd cn cs a ccd cl outer A₀ base h₀ L m s Q E B F X N T hk hd hu hret
  refine wpAny_call ?_
  k_dflt ktr_enter
  k_steps
  all_goals (refine hret _ _ _ _ (by k_asm) (by k_asm) ?_)
  all_goals clear hret B F X N T
  · obtain rfl : k = 0 := by assumption
    exact ⟨[], rfl, ⟨rfl, _, rfl⟩, fun _ h => nomatch h⟩
  · obtain rfl : k = 1 := by assumption
    exact ⟨[], rfl, ⟨rfl, _, rfl⟩, fun _ h => nomatch h⟩
  · obtain rfl : k = 2 := by assumption
    exact ⟨[], rfl, ⟨rfl, _, rfl⟩, fun _ h => nomatch h⟩
  · have e : k = 3 := by omega
    subst e
    refine ⟨[_], rfl, ⟨_, _, _, rfl, List.Mem.head _⟩, fun p hp => ?_⟩
    rw [List.mem_singleton.mp hp]
    exact ⟨rfl, by assumption⟩
end Mine
theorem Mine.freshD3 : (0 : Nat) = 0 := by
  w_top off
  first | walk1 | rfl
namespace Mine
open Classical

abbrev Row := (Int × Int) × Int
def RowV (tup : Bool) (news : List (Addr × Obj)) (v : Value) (r : Row) : Prop :=
  ∃ p kv t, v = .ref p ∧ (p, tupO [kv, .int r.2 t]) ∈ news ∧ KeyV tup news kv r.1
noncomputable def RowsV (tup : Bool) (news : List (Addr × Obj)) : List Value → List Row → Prop
  | [], [] => True
  | v :: vs, r :: rs => RowV tup news v r ∧ RowsV tup news vs rs
  | _, _ => False

theorem KeyV.mono {tup : Bool} {news news' : List (Addr × Obj)} {v : Value} {k : Int × Int} (h : KeyV tup news v k) (hs : ∀ p ∈ news, p ∈ news') : KeyV tup news' v k := by
  unfold KeyV at h ⊢
  cases tup with
  | true => obtain ⟨p, t1, t2, e, hm⟩ := h; exact ⟨p, t1, t2, e, hs _ hm⟩
  | false => exact h
theorem RowV.mono {tup : Bool} {news news' : List (Addr × Obj)} {v : Value} {r : Row} (h : RowV tup news v r) (hs : ∀ p ∈ news, p ∈ news') : RowV tup news' v r := by
  obtain ⟨p, kv, t, e, hm, hk⟩ := h
  exact ⟨p, kv, t, e, hs _ hm, hk.mono hs⟩
theorem RowsV.mono {tup : Bool} {news news' : List (Addr × Obj)} (hs : ∀ p ∈ news, p ∈ news') : ∀ {vs : List Value} {rs : List Row}, RowsV tup news vs rs → RowsV tup news' vs rs
  | [], [], _ => trivial
  | _ :: _, _ :: _, ⟨a, b⟩ => ⟨a.mono hs, RowsV.mono hs b⟩
theorem RowsV.length {tup : Bool} {news : List (Addr × Obj)} : ∀ {vs : List Value} {rs : List Row}, RowsV tup news vs rs → vs.length = rs.length
  | [], [], _ => rfl
  | _ :: _, _ :: _, ⟨_, b⟩ => by simp [RowsV.length b]
theorem RowsV.get {tup : Bool} {news : List (Addr × Obj)} : ∀ {vs : List Value} {rs : List Row}, RowsV tup news vs rs → ∀ (i : Nat) (r : Row), rs[i]? = some r → ∃ v, vs[i]? = some v ∧ RowV tup news v r
  | [], [], _, _, _, e => by simp at e
  | v :: _, _ :: _, ⟨a, _⟩, 0, _, e => by simp at e; subst e; exact ⟨v, rfl, a⟩
  | _ :: _, _ :: _, ⟨_, b⟩, i + 1, r, e => by simp at e; obtain ⟨v, h1, h2⟩ := RowsV.get b i r e; exact ⟨v, by simpa using h1, h2⟩
theorem RowsV.append {tup : Bool} {news : List (Addr × Obj)} : ∀ {vs : List Value} {rs : List Row} {ws : List Value} {us : List Row}, RowsV tup news vs rs → RowsV tup news ws us → RowsV tup news (vs ++ ws) (rs ++ us)
  | [], [], _, _, _, h => h
  | _ :: _, _ :: _, _, _, ⟨a, b⟩, h => ⟨a, RowsV.append b h⟩
theorem RowsV.take {tup : Bool} {news : List (Addr × Obj)} : ∀ {vs : List Value} {rs : List Row} (n : Nat), RowsV tup news vs rs → RowsV tup news (vs.take n) (rs.take n)
  | [], [], n, _ => by simp [RowsV]
  | _ :: _, _ :: _, 0, _ => by simp [RowsV]
  | _ :: _, _ :: _, n + 1, ⟨a, b⟩ => ⟨a, RowsV.take n b⟩
theorem RowsV.drop {tup : Bool} {news : List (Addr × Obj)} : ∀ {vs : List Value} {rs : List Row} (n : Nat), RowsV tup news vs rs → RowsV tup news (vs.drop n) (rs.drop n)
  | [], [], n, _ => by simp [RowsV]
  | _ :: _, _ :: _, 0, h => h
  | _ :: _, _ :: _, n + 1, ⟨_, b⟩ => RowsV.drop n b

noncomputable def dueN (rs : List Row) : Nat → Nat
  | 0 => 0
  | i + 1 => if klt (rs.getD i default).1 (rs.getD (dueN rs i) default).1 then i else dueN rs i
noncomputable def due (rs : List Row) : Nat := dueN rs rs.length


theorem Fr.seen {h₀ h : Heap} {L : Addr} {m : Str → Option Value} (ps : List (Str × Value)) (F : Fr h₀ L h m) (hp : ∀ p ∈ ps, m p.1 = some p.2) : Fr h₀ L h (kstB m ps) := by
  have e : kstB m ps = m := funext fun z => kstB_eq hp fun _ => rfl
  rw [e]; exact F

theorem dueN_le (rs : List Row) : ∀ i, dueN rs i ≤ i - 1
  | 0 => Nat.le_refl _
  | i + 1 => by
    have := dueN_le rs i
    unfold dueN
    split <;> omega

section
variable {prog : Program} {w : World} {A : Around} {E : Value → Shared → Prop} {s : Shared} {env : Env} {h₀ : Heap} {x : Str} {body : List Stmt} {Q : Flow → Shared → Prop}
theorem range_loop {r : Addr} {a₀ b₀ : Int} {t₀ u₀ v₀ : Tok} {n : Nat} {m₀ : Str → Option Value} {news : List (Addr × Obj)} (J : Nat → (Str → Option Value) → List (Addr × Obj) → Prop)
    (hh : A.handled = none) (hr : IsRange s.heap r a₀ b₀ 1 t₀ u₀ v₀) (hsmall : Builtin.Range.small a₀ b₀ 1 = true) (hn : Builtin.Range.rangeSize a₀ b₀ 1 = (n : Int)) (F : Fr h₀ env.locals s.heap m₀) (N : News h₀ env.locals s.heap news) (hj : J 0 m₀ news)
    (turn : ∀ (I : Addr) (i : Nat) m₁ news₁ t h tk, i < n → J i m₁ news₁ → (∀ p ∈ news₁, p.1 ≠ I) → Fr h₀ env.locals h (fun y => if y = x then some (.int (a₀ + (i : Int)) t) else m₁ y) →
      News h₀ env.locals h ((I, itR (a₀ + ((i + 1 : Nat) : Int)) ((n : Int) - ((i + 1 : Nat) : Int))) :: news₁) →
      wpAny (model prog w) A (execs body env) (UnrPost h₀ env.locals { s with heap := h, toks := tk } I (itR (a₀ + ((i + 1 : Nat) : Int)) ((n : Int) - ((i + 1 : Nat) : Int))) (J (i + 1)) Q) E { s with heap := h, toks := tk })
    (done : ∀ m₁ news₁ h tk, J n m₁ news₁ → Fr h₀ env.locals h m₁ → News h₀ env.locals h news₁ → Q .next { s with heap := h, toks := tk }) :
    wpAny (model prog w) A (pyIter (.ref r)) (fun it s₂ => LoopAtV prog w A h₀ env x body Q E it s₂) E s := by
  refine iter_rangeUnr hh hr hsmall hn F N fun I hI => ?_
  have all : ∀ k i m₁ news₁, i + k = n → J i m₁ news₁ → (∀ p ∈ news₁, p.1 ≠ I) → RangeRest prog w A E h₀ env x body Q s I a₀ n k i m₁ news₁ := by
    intro k
    induction k with
    | zero =>
      intro i m₁ news₁ e hJ _
      have e' : i = n := by omega
      subst e'
      exact RangeRest.zero fun h tk F₁ N₁ => done m₁ news₁ h tk hJ F₁ N₁
    | succ k ih =>
      intro i m₁ news₁ e hJ hoff
      refine RangeRest.succ fun t h tk F₁ N₁ => ?_
      refine wpAny_mono (turn I i m₁ news₁ t h tk (by omega) hJ hoff F₁ N₁) (fun f s₂ p => ?_) fun _ _ x => x
      have up : UnrEnd h₀ env.locals { s with heap := h, toks := tk } I (itR (a₀ + ((i + 1 : Nat) : Int)) ((n : Int) - ((i + 1 : Nat) : Int))) (J (i + 1)) s₂ →
          UnrEnd h₀ env.locals { s with heap := h, toks := tk } I (itR (a₀ + ((i + 1 : Nat) : Int)) ((n : Int) - ((i + 1 : Nat) : Int))) (RangeRest prog w A E h₀ env x body Q s I a₀ n k (i + 1)) s₂ := by
        rintro ⟨h', tk', m', news', e', F', N', ho, hJ'⟩
        exact ⟨h', tk', m', news', e', F', N', ho, ih _ _ _ (by omega) hJ' ho⟩
      cases f with
      | ret v => exact p
      | brk => exact p
      | next => exact up p
      | cont => exact up p
  exact all n 0 m₀ news (by omega) hj fun p hp => Nat.ne_of_lt (hI p hp)
end

section
variable {prog : Program} {w : World} {A : Around} {E : Value → Shared → Prop} {s : Shared} {h₀ : Heap} {L l : Addr} {tup : Bool} {news L9 : List (Addr × Obj)} {us : List Value} {rs : List Row} {n : Nat} {Q : Value → Shared → Prop}
theorem rows_len (N : News h₀ L s.heap news) (hm : (l, listOf us.toArray n) ∈ news) (hr : RowsV tup L9 us rs) (hlen : rs.length < 1000)
    (h : Q (.int (rs.length : Int) (s.toks + 1)) { s with toks := s.toks + 1 + 1 }) : wpAny (model prog w) A (call (.builtin "len") [.ref l]) Q E s := by
  refine kst_len N hm hr.length (by omega) h
theorem rows_item {value slice : PySem.Expr} {k : Int} {u : Tok} (N : News h₀ L s.heap news) (hm : (l, listOf us.toArray n) ∈ news) (hr : RowsV tup L9 us rs)
    (h0 : 0 ≤ k) (h1 : k < (rs.length : Int)) (hfit : k < 2 ^ 63)
    (h : ∀ p kv t, (p, tupO [kv, .int (rs.getD k.toNat default).2 t]) ∈ L9 → KeyV tup L9 kv (rs.getD k.toNat default).1 → Q (.ref p) s)
    (hs : subscripted slice false (.ref l) (.int k u) = operate [.ref l, .int k u] (getItem (.ref l) (.int k u)) := by with_unfolding_all rfl) :
    wpAny (model prog w) A (subscriptTail value slice (.ref l) (.int k u)) Q E s := by
  have hk : k.toNat < rs.length := by omega
  have hl : s.heap.IsList l us.toArray := ⟨_, (N _ hm).1, rfl, n, rfl⟩
  obtain ⟨v, hv, p, kv, t, rfl, hp, hkv⟩ := hr.get k.toNat _ (List.getElem?_eq_getElem hk)
  have e : rs.getD k.toNat default = rs[k.toNat] := by simp [List.getD, hk]
  rw [e] at h
  exact tail_any hl.typeIs slot_list_getitem.lookup (wpAny_getItem_list hl h0 hfit (by simpa using hv) (h p kv t hp hkv)) hs
theorem key_lt {v1 v2 : Value} {k1 k2 : Int × Int} (N : News h₀ L s.heap news) (h1 : KeyV tup L9 v1 k1) (h2 : KeyV tup L9 v2 k2) (hs : ∀ p ∈ L9, p ∈ news) (hu : A.units < cLine) (h : Q (.bool (decide (klt k1 k2))) s) :
    wpAny (model prog w) A (compareOp .Lt v1 v2) Q E s := by
  obtain ⟨a1, a2⟩ := k1
  obtain ⟨b1, b2⟩ := k2
  cases tup with
  | true =>
    obtain ⟨p, t1, t2, rfl, hp⟩ := h1
    obtain ⟨q, u1, u2, rfl, hq⟩ := h2
    exact lt_tup2 (N _ (hs _ hp)).1 (N _ (hs _ hq)).1 hu h
  | false =>
    obtain ⟨e1, t, rfl⟩ := h1
    obtain ⟨e2, u, rfl⟩ := h2
    refine lt_int ?_
    have : decide (klt (a1, a2) (b1, b2)) = decide (a1 < b1) := by
      dsimp only at e1 e2; subst e1; subst e2; unfold klt; simp
    rw [this] at h
    exact h
end

local macro_rules | `(tactic| k_mem) => `(tactic| assumption)
local macro_rules | `(tactic| walk_at "call builtin:len") => `(tactic| (k_here; (with_reducible show wpAny _ _ (call (Value.builtin "len") [Value.ref _]) _ _ _); k_dflt (refine' rows_len ?k1 ?k2 ?k3 ?k4 ?_; (case k1 => k_asm); (case k2 => k_mem); (case k3 => assumption); (case k4 => assumption); k_whole)))
local macro_rules | `(tactic| walk_at "subscriptTail") => `(tactic| (k_here; (with_reducible show wpAny _ _ (subscriptTail _ _ (Value.ref _) (Value.int _ _)) _ _ _); (with_unfolding_all refine' rows_item ?k1 ?k2 ?k3 ?k4 ?k5 ?k6 ?_ ?k7; (case k1 => k_asm); (case k2 => k_mem); (case k3 => assumption); (case k4 => omega); (case k5 => omega); (case k6 => omega); (case k7 => with_unfolding_all rfl); k_whole); intro p' kv' t' hp' hkv'))

local macro_rules | `(tactic| walk_at "compareOp Lt") => `(tactic| (k_here; (with_reducible show wpAny _ _ (compareOp CmpOp.Lt _ _) _ _ _); k_dflt (refine' key_lt ?k1 ?k2 ?k3 ?k5 ?k4 ?_; (case k1 => k_asm); (case k2 => assumption); (case k3 => assumption); (case k5 => (intro p9 hp9; k_mem)); (case k4 => ktr_units); k_whole)))
local macro_rules | `(tactic| k_steps) => `(tactic| repeat' ((fail_if_success (with_reducible show wpAny _ _ (pyIter _) _ _ _)); first | (k_unfold; (try dsimp only)) | (k_end; wrow_close) | walk1 | (dsimp only; walk1) | (leave1; walk_say "STEP leave1"; try dsimp only) | fail "no step"))

theorem ctr_due {w : World} {pp : Program} {ll : List Str} {mean : ExcName → Option Value} {mg mb : Str → Option Value} {news : List (Addr × Obj)} {l : Addr} {n : Nat} {vs : List Value} {rs : List Row} {tup : Bool}
    (hl : (l, listOf vs.toArray n) ∈ news) (hr : RowsV tup news vs rs) (hlen : rs.length < 1000) :
    Ctr w pp ll mean mg mb 2 (.ref 77) [.ref l] news (fun r news' => (∃ t, r = .int (due rs) t) ∧ news' = news) := by
  unfold Ctr
  k_fill
  intro dp un gd cn cs a ccd cl outer A₀ base h₀ L m s Q E B F X N T hk hd hu hret
  refine wpAny_call ?_
  k_dflt ktr_enter
  k_steps
  rename IsRange _ _ _ _ _ _ _ _ => R'
  rename Fr _ _ _ _ => lF'
  rename News _ _ _ _ => lN'
  with_unfolding_all refine range_loop (n := rs.length) (fun i m₁ news₁ => news₁ = news ∧ (∃ t, m₁ (Str.ofString "best") = some (.int (dueN rs i) t)) ∧ m₁ (Str.ofString "rows") = some (.ref l)) (by rfl) R' (small_one (by omega) (by omega) (by omega) (by omega)) (by rw [rangeSize_nat]; omega) lF' lN' ⟨rfl, ⟨_, rfl⟩, rfl⟩ ?_ ?_
  all_goals clear R' lF' lN'
  · rintro I i m₁ news₁ t h tk hi ⟨rfl, ⟨tb, hb⟩, hrows⟩ hoff F₁ N₁
    have hd' := dueN_le rs i
    replace F₁ := Fr.seen [(Str.ofString "place", .int (0 + (i : Int)) t), (Str.ofString "best", .int (dueN rs i) tb), (Str.ofString "rows", .ref l)] F₁ (List.forall_mem_cons.mpr ⟨rfl, List.forall_mem_cons.mpr ⟨hb, List.forall_mem_cons.mpr ⟨hrows, List.forall_mem_nil _⟩⟩⟩)
    dsimp only [kstB, envOf] at F₁ N₁
    (try k_fold)
    have e1 : ((0 : Int) + (i : Int)).toNat = i := by omega
    have e2 : ((dueN rs i : Nat) : Int).toNat = dueN rs i := by omega
    k_steps
    · rename klt _ _ => hlt
      rw [e1, e2] at hlt
      have e : ((dueN rs (i + 1) : Nat) : Int) = 0 + (i : Int) := by
        rw [dueN, if_pos hlt]; omega
      exact UnrEnd.intro (by k_asm) (by k_asm) news₁ (fun p hp => hp) hoff ⟨rfl, ⟨_, by rw [e]; rfl⟩, rfl⟩
    · rename ¬ klt _ _ => hlt
      rw [e1, e2] at hlt
      have e : dueN rs (i + 1) = dueN rs i := by rw [dueN, if_neg hlt]
      exact UnrEnd.intro (by k_asm) (by k_asm) news₁ (fun p hp => hp) hoff ⟨rfl, ⟨_, by rw [e]; rfl⟩, rfl⟩
  · rintro m₁ news₁ h tk ⟨rfl, ⟨tb, hb⟩, hrows⟩ F₁ N₁
    replace F₁ := Fr.seen [(Str.ofString "best", .int (dueN rs rs.length) tb)] F₁ (List.forall_mem_cons.mpr ⟨hb, List.forall_mem_nil _⟩)
    dsimp only [kstB, envOf] at F₁ N₁
    k_steps
    exact hret _ _ _ _ (by k_asm) (by k_asm) ⟨⟨_, rfl⟩, rfl⟩
end Mine
theorem Mine.freshD4 : (0 : Nat) = 0 := by
  w_top off
  first | walk1 | rfl
namespace Mine

abbrev qDict (h1 h2 : Int) (t1 t2 : Tok) (f : Value) (rr : Addr) : Obj :=
  dictOf [⟨h1, .str (Str.ofString "key") t1, f⟩, ⟨h2, .str (Str.ofString "_rows") t2, .ref rr⟩] 2

local macro_rules | `(tactic| k_mem) => `(tactic| assumption)
local macro_rules | `(tactic| k_room) => `(tactic| ktr_room)
local macro_rules | `(tactic| k_units) => `(tactic| ktr_units)
local macro_rules | `(tactic| walk_at "call builtin:len") => `(tactic| (k_here; (with_reducible show wpAny _ _ (call (Value.builtin "len") [Value.ref _]) _ _ _); k_dflt (refine' rows_len ?k1 ?k2 ?k3 ?k4 ?_; (case k1 => k_asm); (case k2 => k_mem); (case k3 => assumption); (case k4 => assumption); k_whole)))
local macro_rules | `(tactic| walk_at "subscriptTail") => `(tactic| (k_here; (with_reducible show wpAny _ _ (subscriptTail _ _ (Value.ref _) (Value.int _ _)) _ _ _); (with_unfolding_all refine' rows_item ?k1 ?k2 ?k3 ?k4 ?k5 ?k6 ?_ ?k7; (case k1 => k_asm); (case k2 => k_mem); (case k3 => assumption); (case k4 => omega); (case k5 => omega); (case k6 => omega); (case k7 => with_unfolding_all rfl); k_whole); intro p' kv' t' hp' hkv'))
local macro_rules | `(tactic| walk_at "compareOp Lt") => `(tactic| (k_here; (with_reducible show wpAny _ _ (compareOp CmpOp.Lt _ _) _ _ _); k_dflt (refine' key_lt ?k1 ?k2 ?k3 ?k5 ?k4 ?_; (case k1 => k_asm); (case k2 => assumption); (case k3 => assumption); (case k5 => (intro p9 hp9; k_mem)); (case k4 => ktr_units); k_whole)))
local macro_rules | `(tactic| k_steps) => `(tactic| repeat' ((fail_if_success (with_reducible show wpAny _ _ (pyIter _) _ _ _)); first | (k_unfold; (try dsimp only)) | (k_end; wrow_close) | walk1 | (dsimp only; walk1) | (leave1; walk_say "STEP leave1"; try dsimp only) | fail "no step"))


section
variable {prog : Program} {w : World} {A : Around} {E : Value → Shared → Prop} {s : Shared} {h₀ : Heap} {L rr : Addr} {m : Str → Option Value} {news : List (Addr × Obj)} {n : Nat} {v : Value} {vs : List Value} {u : Tok} {Q : Value → Shared → Prop}
theorem pop0 (F : Fr h₀ L s.heap m) (N : News h₀ L s.heap ((rr, listOf (v :: vs).toArray n) :: news)) (hoff : ∀ p ∈ news, p.1 ≠ rr) (hlen : (v :: vs).length < 1000)
    (h : ∀ h', Fr h₀ L h' m → News h₀ L h' ((rr, listOf vs.toArray (n + 1)) :: news) → Q v { s with heap := h' }) : wpAny (model prog w) A (call (.builtin "list.pop") [.ref rr, .int 0 u]) Q E s := by
  refine kl_popAt (k := 0) (p := []) (q := vs) (y := v) F N rfl ?_ rfl (Upd.head hoff) ?_ h
  · unfold seqIndex?; simp
  · rw [List.toList_toArray, sizeLine_eq]; omega
theorem pop_none {E : Value → Shared → Prop} (hA : A.handled = none) (N : News h₀ L s.heap news) (hm : (rr, listOf (List.toArray []) n) ∈ news)
    (hE : ∀ h' tk e, Heap.NewExc s.heap h' e "IndexError" → E (.ref e) { s with heap := h', toks := tk }) : wpAny (model prog w) A (call (.builtin "list.pop") [.ref rr, .int 0 u]) Q E s :=
  call_meets PySem.F.slot_list_pop ⟨_, (N _ hm).1, rfl⟩ PySem.F.entry_list_pop (PySem.F.args_list_pop_2 _ _) (PySem.AutoListH.list_pop_list_int_1 rr _ n 0 u (by decide) rfl) ⟨(N _ hm).1, hA, hE⟩
end

local macro_rules | `(tactic| walk_at "call builtin:list.pop") => `(tactic| (k_here; (with_reducible show wpAny _ _ (call (Value.builtin _) [Value.ref _, Value.int 0 _]) _ _ _); k_dflt (refine' pop_none ?a ?N ?m ?_; (case N => k_asm); (case m => k_mem); (case a => rfl)); (intro h' tk' e' x')))
local macro_rules | `(tactic| walk_at "call builtin:list.pop") => `(tactic| (k_here; (with_reducible show wpAny _ _ (call (Value.builtin _) [Value.ref _, Value.int 0 _]) _ _ _); k_dflt (refine' pop0 ?F ?N ?o ?l ?_; (case F => k_asm); (case N => k_asm); (case o => assumption); (case l => assumption)); (intro h' F' N')))

theorem ctr_bool {w : World} {pp : Program} {ll : List Str} {mean : ExcName → Option Value} {mg mb : Str → Option Value} {news L9 : List (Addr × Obj)} {q d rr : Addr} {h1 h2 : Int} {t1 t2 : Tok} {f : Value} {n : Nat} {vs : List Value} {rs : List Row} {tup : Bool}
    (hq : (q, instObj 52 d) ∈ news) (hdd : (d, qDict h1 h2 t1 t2 f rr) ∈ news) (hl : (rr, listOf vs.toArray n) ∈ news) (hr : RowsV tup L9 vs rs) (hlen : rs.length < 1000) :
    Ctr w pp ll mean mg mb 2 (.ref 35) [.ref q] news (fun r news' => r = .bool (decide (rs ≠ [])) ∧ news' = news) := by
  unfold Ctr
  k_fill
  intro dp un gd cn cs a ccd cl outer A₀ base h₀ L m s Q E B F X N T hk hd hu hret
  refine wpAny_call ?_
  k_dflt ktr_enter
  k_steps
  refine hret _ _ _ _ (by k_asm) (by k_asm) ⟨?_, rfl⟩
  cases rs <;> simp

theorem ctr_pop {w : World} {pp : Program} {ll : List Str} {mean : ExcName → Option Value} {mg mb : Str → Option Value} {news : List (Addr × Obj)} {q d rr : Addr} {h1 h2 : Int} {t1 t2 : Tok} {f : Value} {n : Nat} {v : Value} {vs : List Value} {r : Row} {rs : List Row} {tup : Bool}
    (hq : (q, instObj 52 d) ∈ news) (hdd : (d, qDict h1 h2 t1 t2 f rr) ∈ news) (hoff : ∀ p ∈ news, p.1 ≠ rr) (hr : RowsV tup news (v :: vs) (r :: rs)) (hlen : (v :: vs).length < 1000) :
    Ctr w pp ll mean mg mb 2 (.ref 49) [.ref q] ((rr, listOf (v :: vs).toArray n) :: news) (fun r' news' => (∃ t, r' = .int r.2 t) ∧ ∃ n', news' = (rr, listOf vs.toArray n') :: news) := by
  unfold Ctr
  k_fill
  intro dp un gd cn cs a ccd cl outer A₀ base h₀ L m s Q E B F X N T hk hd hu hret
  refine wpAny_call ?_
  k_dflt ktr_enter
  obtain ⟨⟨p, kv, t, rfl, hp, hkv⟩, hr'⟩ := hr
  k_steps
  exact hret _ _ _ _ (by k_asm) (by k_asm) ⟨⟨_, rfl⟩, _, rfl⟩

section
variable {prog : Program} {w : World} {A₀ A : Around} {s : Shared} {base h₀ : Heap} {L : Addr} {m : Str → Option Value} {news : List (Addr × Obj)} {K : Frag} {p : Program} {loose : List Str} {mean : ExcName → Option Value} {mg mb : Str → Option Value}
  {R : Result → Shared → Prop} {name qual : Str} {params : Arguments} {body : List Stmt} {scope : Scope} {dV kV doc pm cdv ct oc : Value} {an od : Option Addr} {osl : Array (Option Value)} {f : Addr} {args : Args} {binds : List (Str × Value)} {env : Env}

/- Above a ground that a caught raise has turned (its frame's slots alone), the caller reads on above its own ground. -/
theorem back_turned {g g' h' : Heap} {L' : Addr} {m' : Str → Option Value} {news' : List (Addr × Obj)} (G : Fr h₀ L g m) (up : h₀.StaysIn g) (T : KtsTurn [L] g g') (F : Fr g' L' h' m') (N : News g' L' h' news') :
    Fr h₀ L h' m ∧ News h₀ L h' news' := by
  have hid : h₀.get? L = none := kts_self G
  have kept : ∀ b o, h₀.get? b = some o → g'.get? b = some o := fun b o e =>
    T.other b o (up b o e) (by simp only [List.mem_singleton]; rintro rfl; rw [hid] at e; exact nomatch e)
  have hsome : ∀ b, g'.get? b = none → b ≠ L ∧ h₀.get? b = none := fun b e => by
    refine ⟨?_, Option.eq_none_iff_forall_not_mem.mpr fun o ho => ?_⟩
    · rintro rfl
      obtain ⟨o, _, _, ho, _⟩ := G.ns
      obtain ⟨sl, hs⟩ := T.up ho
      rw [hs] at e
      exact nomatch e
    · rw [kept b o ho] at e
      exact nomatch e
  have frame : h'.Ns L m := by
    obtain ⟨o, es, n, ho, hd, rest⟩ := G.ns
    obtain ⟨sl, hs⟩ := T.up ho
    exact ⟨_, es, n, F.keep _ _ hs, hd, rest⟩
  exact ⟨⟨frame, fun b o e => F.keep b o (kept b o e), G.above⟩, fun p hp => ⟨(N p hp).1, hsome _ (N p hp).2.2⟩⟩

/- A def with a try of its own, called from the one frame of the call, whatever cells that frame bears. -/
theorem enter_try (hA : A.frames = some [env]) (hf : env.frame = some L) (hke : env.scope.kind = .function) (B : Below A₀ base [] h₀) (X : K.In h₀) (T : Top p loose mean mg mb h₀) (F : Fr h₀ L s.heap m) (N : News h₀ L s.heap news)
    (hdef : K.lookup f = some ⟨oc, od, .func (fnOf name qual params body scope dV kV doc pm an cdv ct), osl⟩) (hcode : codeIn K cdv qual = true) (hroom : A.depth < recursionLimit)
    (hsc : (scope.isCoroutine = false ∧ scope.isGenerator = false ∧ scope.kind = .function) ∧ ∀ x ∈ scope.names, x.2 ≠ .cell)
    (hargs : BindsTo s (fnOf name qual params body scope dV kV doc pm an cdv ct) args binds) (hloc : ∀ y ∈ binds, scope.names.lookup y.1 = some .local)
    (walk : ∀ g L' h₁, Fr h₀ L g m → Fr g L' h₁ (fun y => binds.reverse.lookup y) → News g L' h₁ news → Below A base [env] g → K.In g → Top p loose mean mg mb g → KtsDicts ([env].filterMap (·.frame)) g →
      wpAny (model prog w) (A.deeper (envOf qual scope L' f cdv)) (execs body (envOf qual scope L' f cdv))
        (fun fl s' => LeaveS0 ([env].filterMap (·.frame)) h₀ L m g R (match fl with | .ret v => v | _ => .none) s')
        (fun e s' => wpAny (model prog w) (A.deeper (envOf qual scope L' f cdv)) (leaving (envOf qual scope L' f cdv) e) (fun _ s'' => R (.error e) s'') (fun e' s'' => R (.error e') s'') s')
        { s with heap := h₁, toks := s.toks + binds.length }) :
    codeAny (model prog w) A (.call (.ref f) args) R s := by
  have here := X.keeps F.keep
  obtain ⟨G, BG, up, -⟩ := groundX (R := R) B F N hA hf hke
  have one : [env].filterMap (·.frame) = [L] := by simp [hf]
  refine codeAny_call_def hroom (here _ _ hdef) rfl (T.nolimit.keeps F.keep) (codeRec_of here hcode) rfl hargs hsc.2 hloc (fun h₁ ns₁ kp => ?_) hsc.1.1 hsc.1.2.1 hsc.1.2.2
  have F₁ : Fr (hideAll s.heap (news.map (·.1))) s.heap.objs.size h₁ (fun y => binds.reverse.lookup y) :=
    ⟨ns₁, fun b o e => kp b o (of_hideAll _ e), Nat.le_of_eq (hideAll_size _ _)⟩
  have N₁ : News (hideAll s.heap (news.map (·.1))) s.heap.objs.size h₁ news := fun q hq =>
    ⟨kp _ _ (N q hq).1, Nat.ne_of_lt (Heap.lt_size (N q hq).1), hideAll_none _ (List.mem_map_of_mem hq)⟩
  have D₁ : KtsDicts ([env].filterMap (·.frame)) (hideAll s.heap (news.map (·.1))) := fun b hb => by
    rw [one, List.mem_singleton] at hb
    obtain ⟨o, es, n, ho, hd, -⟩ := G.ns
    exact ⟨o, es, n, hb ▸ ho, hd⟩
  refine wpAny_mono (walk _ _ h₁ G F₁ N₁ BG (X.keeps up) (T.keeps up) D₁) (fun fl s' hl => ?_) fun _ _ y => y
  obtain ⟨g', L', m', news', T', F', N', k⟩ := hl
  obtain ⟨F₂, N₂⟩ := back_turned G up (one ▸ T') F' N'
  exact k F₂ N₂
end

def CtrT (w : World) (pp : Program) (ll : List Str) (mean : ExcName → Option Value) (mg mb : Str → Option Value) (bud : Nat) (f : Value) (args : List Value) (news : List (Addr × Obj)) (Post : Value → List (Addr × Obj) → Prop) : Prop :=
  ∀ (dp un : Nat) (gd : Option (List Code)) (cn : Str) (cs : Scope) (a : Addr) (ccd : Value) (cl : List (Str × Addr)) (A₀ : Around) (base h₀ : Heap) (L : Addr) (m : Str → Option Value) (s : Shared)
    (Q E : Value → Shared → Prop),
    Below A₀ base [] h₀ → Fr h₀ L s.heap m → (hd.heap_39 w.params).In h₀ → News h₀ L s.heap news → Top pp ll mean mg mb h₀ → (hd.heap_39 w.params).In base → Top pp ll mean mg mb base →
    cs.kind = .function → dp + bud < recursionLimit → un + 8 * bud < cLine →
    (∀ r news' h' tk', Fr h₀ L h' m → News h₀ L h' news' → Post r news' → Q r { s with heap := h', toks := tk' }) →
    wpAny (model PySem.Challenge.rw_ah6005_01.row.prog w) (ktrTop dp un gd cn cs L a ccd cl []) (call f args) Q E s

theorem ctr_refused {w : World} {pp : Program} {ll : List Str} {mean : ExcName → Option Value} {mg mb : Str → Option Value} {news : List (Addr × Obj)} {q d rr : Addr} {h1 h2 : Int} {t1 t2 : Tok} {f : Value} {n : Nat}
    (hq : (q, instObj 52 d) ∈ news) (hdd : (d, qDict h1 h2 t1 t2 f rr) ∈ news) (hl : (rr, listOf (List.toArray []) n) ∈ news) :
    CtrT w pp ll mean mg mb 4 (.ref 84) [.ref q] news (fun r' news' => r' = .bool true ∧ news' = news) := by
  unfold CtrT
  k_fill
  intro dp un gd cn cs a ccd cl A₀ base h₀ L m s Q E B F X N T XB TB hk hd hu hret
  refine wpAny_call ?_
  k_dflt (refine' enter_try ?kA ?kF ?kK ?k1 ?k3 ?k5 ?k2 ?k4 ?k6 ?k7 ?k8 ?kS ?k9 ?kB ?_; (case kA => exact rfl); (case kF => exact rfl); (case kK => assumption); (case k1 => k_asm); (case k2 => k_asm); (case k3 => k_asm); (case k4 => k_asm); (case k5 => k_asm); (case k6 => k_is); (case k7 => k_is); (case k8 => ktr_room); (case k9 => exact BindsTo.of_eq rfl); (case kS => exact ⟨⟨rfl, rfl, rfl⟩, by decide⟩); (case kB => exact locs rfl); k_whole; intro g' L' h' FG' F' N' B' X' T' D'; (try dsimp only); (try k_fold))
  k_steps
  exact hret _ _ _ _ (by k_asm) (by k_asm) ⟨rfl, rfl⟩
end Mine
theorem Mine.freshD5 : (0 : Nat) = 0 := by
  w_top off
  first | walk1 | rfl
namespace Mine

section
variable {w : World} {pp : Program} {ll : List Str} {mean : ExcName → Option Value} {mg mb : Str → Option Value} {bud : Nat} {f : Value} {args : List Value} {news : List (Addr × Obj)} {Post : Value → List (Addr × Obj) → Prop}
  {dp un : Nat} {gd : Option (List Code)} {cn : Str} {cs : Scope} {a : Addr} {ccd : Value} {cl : List (Str × Addr)} {outer : List Env} {A₀ : Around} {base h₀ : Heap} {L : Addr} {m : Str → Option Value} {s : Shared} {Q E : Value → Shared → Prop}
theorem ctr_use (C : Ctr w pp ll mean mg mb bud f args news Post) (B : Below A₀ base outer h₀) (F : Fr h₀ L s.heap m) (X : (hd.heap_39 w.params).In h₀) (N : News h₀ L s.heap news) (T : Top pp ll mean mg mb h₀)
    (hk : cs.kind = .function) (hd : dp + bud < recursionLimit) (hu : un + 8 * bud < cLine)
    (ret : ∀ r news' h' tk', Fr h₀ L h' m → News h₀ L h' news' → Post r news' → Q r { s with heap := h', toks := tk' }) :
    wpAny (model PySem.Challenge.rw_ah6005_01.row.prog w) (ktrTop dp un gd cn cs L a ccd cl outer) (call f args) Q E s := C _ _ _ _ _ _ _ _ _ _ _ _ _ _ _ _ _ B F X N T hk hd hu ret
end

section
variable {prog : Program} {w : World} {A : Around} {E : Value → Shared → Prop} {s : Shared} {h₀ : Heap} {L l : Addr} {m : Str → Option Value} {news : List (Addr × Obj)} {value slice : PySem.Expr} {us : List Value} {n : Nat} {x : Int} {u : Tok} {Q : Value → Shared → Prop}
theorem sl_upto (F : Fr h₀ L s.heap m) (N : News h₀ L s.heap news) (hl : (l, listOf us.toArray n) ∈ news) (hx : 0 ≤ x) (hz : us.length < 1000)
    (h : ∀ D h', Fr h₀ L h' m → News h₀ L h' ((D, listOf (us.take x.toNat).toArray 0) :: news) → (∀ p ∈ news, p.1 < D) → Q (.ref D) { s with heap := h' })
    (hs : subscripted slice false (.ref l) (.ref s.heap.objs.size) = operate [.ref s.heap.objs.size, .ref l] (getItem (.ref l) (.ref s.heap.objs.size))) (ht : ∀ r, letTemporaryGo value (.ref l) r = pure ()) :
    wpAny (model prog w) A (subscriptTail value slice (.ref l) (.ref s.heap.objs.size)) Q E { s with heap := s.heap.push { cls := .type "slice", data := .fields #[.none, .int x u, .none] } } := by
  obtain ⟨b, rfl⟩ : ∃ b : Nat, x = (b : Int) := ⟨x.toNat, by omega⟩
  refine kmk_slice F N ⟨_, (N _ hl).1, rfl, n, rfl⟩ .none (.int _ _) (fun D h' F' N' l1 => h D h' F' ?_ l1) hs ht (by rw [List.size_toArray, sizeLine_eq]; omega)
  rw [slicePick_upto'] at N'
  exact N'
theorem sl_from (F : Fr h₀ L s.heap m) (N : News h₀ L s.heap news) (hl : (l, listOf us.toArray n) ∈ news) (hx : 0 ≤ x) (hz : us.length < 1000)
    (h : ∀ D h', Fr h₀ L h' m → News h₀ L h' ((D, listOf (us.drop x.toNat).toArray 0) :: news) → (∀ p ∈ news, p.1 < D) → Q (.ref D) { s with heap := h' })
    (hs : subscripted slice false (.ref l) (.ref s.heap.objs.size) = operate [.ref s.heap.objs.size, .ref l] (getItem (.ref l) (.ref s.heap.objs.size))) (ht : ∀ r, letTemporaryGo value (.ref l) r = pure ()) :
    wpAny (model prog w) A (subscriptTail value slice (.ref l) (.ref s.heap.objs.size)) Q E { s with heap := s.heap.push { cls := .type "slice", data := .fields #[.int x u, .none, .none] } } := by
  obtain ⟨b, rfl⟩ : ∃ b : Nat, x = (b : Int) := ⟨x.toNat, by omega⟩
  refine kmk_slice F N ⟨_, (N _ hl).1, rfl, n, rfl⟩ (.int _ _) .none (fun D h' F' N' l1 => h D h' F' ?_ l1) hs ht (by rw [List.size_toArray, sizeLine_eq]; omega)
  rw [slicePick_from'] at N'
  exact N'
theorem led_add {a b : Addr} {vs ws : List Value} {n' : Nat} (F : Fr h₀ L s.heap m) (N : News h₀ L s.heap news) (ha : (a, listOf vs.toArray n) ∈ news) (hb : (b, listOf ws.toArray n') ∈ news) (hz : vs.length + ws.length ≤ 2000)
    (h : ∀ D h', Fr h₀ L h' m → News h₀ L h' ((D, listOf (vs ++ ws).toArray 0) :: news) → (∀ p ∈ news, p.1 < D) → Q (.ref D) { s with heap := h' }) :
    wpAny (model prog w) A (binaryOp .Add (.ref a) (.ref b)) Q E s :=
  kmk_add_lit F N ⟨_, (N _ ha).1, rfl, n, rfl⟩ ⟨_, (N _ hb).1, rfl, n', rfl⟩ rfl h (by rw [sizeLine_eq]; simp only [List.toList_toArray]; omega)
end

local macro_rules | `(tactic| k_mem) => `(tactic| assumption)
local macro_rules | `(tactic| k_room) => `(tactic| ktr_room)
local macro_rules | `(tactic| k_units) => `(tactic| ktr_units)
local macro_rules | `(tactic| walk_at "call builtin:len") => `(tactic| (k_here; (with_reducible show wpAny _ _ (call (Value.builtin "len") [Value.ref _]) _ _ _); k_dflt (refine' rows_len ?k1 ?k2 ?k3 ?k4 ?_; (case k1 => k_asm); (case k2 => k_mem); (case k3 => assumption); (case k4 => assumption); k_whole)))
local macro_rules | `(tactic| walk_at "subscriptTail") => `(tactic| (k_here; (with_reducible show wpAny _ _ (subscriptTail _ _ (Value.ref _) (Value.int _ _)) _ _ _); (with_unfolding_all refine' rows_item ?k1 ?k2 ?k3 ?k4 ?k5 ?k6 ?_ ?k7; (case k1 => k_asm); (case k2 => k_mem); (case k3 => assumption); (case k4 => omega); (case k5 => omega); (case k6 => omega); (case k7 => with_unfolding_all rfl); k_whole); intro p' kv' t' hp' hkv'))
local macro_rules | `(tactic| walk_at "compareOp Lt") => `(tactic| (k_here; (with_reducible show wpAny _ _ (compareOp CmpOp.Lt _ _) _ _ _); k_dflt (refine' key_lt ?k1 ?k2 ?k3 ?k5 ?k4 ?_; (case k1 => k_asm); (case k2 => assumption); (case k3 => assumption); (case k5 => (intro p9 hp9; k_mem)); (case k4 => ktr_units); k_whole)))
local macro_rules | `(tactic| k_steps) => `(tactic| repeat' ((fail_if_success (with_reducible show wpAny _ _ (pyIter _) _ _ _)); first | (k_unfold; (try dsimp only)) | (k_end; wrow_close) | walk1 | (dsimp only; walk1) | (leave1; walk_say "STEP leave1"; try dsimp only) | fail "no step"))

local macro_rules | `(tactic| walk_at "call ref") => `(tactic| (k_here; (with_reducible show wpAny _ _ (call (Value.ref 77) [Value.ref _]) _ _ _); k_dflt (refine' ctr_use (ctr_due ?hl ?hr ?hlen) ?k1 ?k2 ?k3 ?k4 ?k5 ?kK ?kd ?ku ?_; (case k1 => k_asm); (case k2 => k_asm); (case k3 => k_asm); (case k4 => k_asm); (case k5 => k_asm); (case hl => k_mem); (case hr => (refine' RowsV.mono ?ha ?hb; (case hb => assumption); (case ha => (intro p9 hp9; k_mem)))); (case hlen => assumption); (case kK => first | exact rfl | assumption); (case kd => ktr_room); (case ku => ktr_units)); intro r9 news9 h' tk' F' N' hP; obtain ⟨⟨t9, e9⟩, e8⟩ := hP; subst e9; subst e8; (try k_sweep); (try k_fold)))
local macro_rules | `(tactic| walk_at "call ref") => `(tactic| (k_here; (try dsimp only [List.nil_append, List.cons_append]); (with_reducible show wpAny _ _ (call (Value.ref 49) [Value.ref _]) _ _ _); k_dflt (refine' ctr_use (ctr_pop ?hq ?hd ?ho ?hr ?hlen) ?k1 ?k2 ?k3 ?k4 ?k5 ?kK ?kd ?ku ?_; (case k1 => k_asm); (case k2 => k_asm); (case k3 => k_asm); (case k4 => k_asm); (case k5 => k_asm); (case hq => k_mem); (case hd => k_mem); (case ho => assumption); (case hr => assumption); (case hlen => assumption); (case kK => first | exact rfl | assumption); (case kd => ktr_room); (case ku => ktr_units)); intro r9 news9 h' tk' F' N' hP; obtain ⟨⟨t9, e9⟩, n9, e8⟩ := hP; subst e9; subst e8; (try k_sweep); (try k_fold)))

local macro_rules | `(tactic| walk_at "subscriptTail Name Slice ref ref") => `(tactic| (k_here; (with_reducible show wpAny _ _ (subscriptTail _ (PySem.Expr.Slice none (some _) none _) (Value.ref _) (Value.ref _)) _ _ _); k_dflt (refine' sl_upto ?F ?N ?l ?x ?z ?_ ?s ?t; (case F => k_asm); (case N => k_asm); (case l => k_mem); (case x => omega); (case z => assumption); (case s => with_unfolding_all rfl); (case t => kmk_pure)); intro D' h' F' N' l1; (try k_lt l1); (try k_sweep)))
local macro_rules | `(tactic| walk_at "subscriptTail Name Slice ref ref") => `(tactic| (k_here; (with_reducible show wpAny _ _ (subscriptTail _ (PySem.Expr.Slice (some _) none none _) (Value.ref _) (Value.ref _)) _ _ _); k_dflt (refine' sl_from ?F ?N ?l ?x ?z ?_ ?s ?t; (case F => k_asm); (case N => k_asm); (case l => k_mem); (case x => omega); (case z => assumption); (case s => with_unfolding_all rfl); (case t => kmk_pure)); intro D' h' F' N' l1; (try k_lt l1); (try k_sweep)))

local macro_rules | `(tactic| walk_at "binaryOp Add ref ref") => `(tactic| (k_here; (with_reducible show wpAny _ _ (binaryOp _ (Value.ref _) (Value.ref _)) _ _ _); k_dflt (refine' led_add ?F ?N ?a ?b ?z ?_; (case F => k_asm); (case N => k_asm); (case a => k_mem); (case b => k_mem); (case z => ((simp only [List.length_take, List.length_drop]); omega))); intro D' h' F' N' l1; (try k_lt l1); (try k_sweep)))

theorem sub3 {a b c d : Addr × Obj} {l : List (Addr × Obj)} : ∀ p ∈ a :: d :: l, p ∈ a :: b :: c :: d :: l := fun p hp => by
  rcases List.mem_cons.mp hp with rfl | hp
  · exact List.Mem.head _
  · exact List.Mem.tail _ (List.Mem.tail _ (List.Mem.tail _ hp))
theorem due_lt {rs : List Row} (h : rs ≠ []) : due rs < rs.length := by
  have := dueN_le rs rs.length
  have : 0 < rs.length := List.length_pos_iff.mpr h
  unfold due; omega

theorem ctr_taken {w : World} {pp : Program} {ll : List Str} {mean : ExcName → Option Value} {mg mb : Str → Option Value} {news : List (Addr × Obj)} {q d rr l : Addr} {h1 h2 : Int} {t1 t2 : Tok} {f : Value} {n n2 : Nat} {v : Value} {vs us : List Value} {r : Row} {qs rs : List Row} {tup : Bool}
    (hq : (q, instObj 52 d) ∈ news) (hdd : (d, qDict h1 h2 t1 t2 f rr) ∈ news) (hoff : ∀ p ∈ news, p.1 ≠ rr) (hv : RowsV tup news (v :: vs) (r :: qs)) (hvlen : (v :: vs).length < 1000)
    (hl : (l, listOf us.toArray n2) ∈ news) (hr : RowsV tup news us rs) (hlen : rs.length < 1000) (hne : rs ≠ []) (hdue : r.2 = (rs.getD (due rs) default).2) :
    Ctr w pp ll mean mg mb 4 (.ref 91) [.ref q, .ref l] ((rr, listOf (v :: vs).toArray n) :: news) (fun r' news' => ∃ l' n1 n2, r' = .ref l' ∧
      (∀ p ∈ (l', listOf (us.take (due rs) ++ us.drop (due rs + 1)).toArray n1) :: (rr, listOf vs.toArray n2) :: news, p ∈ news') ∧ @LT.lt Nat _ rr l' ∧ ∀ p ∈ news, p.1 < l') := by
  have hdlt := due_lt hne
  have hulen : us.length < 1000 := by rw [hr.length]; exact hlen
  unfold Ctr
  k_fill
  intro dp un gd cn cs a ccd cl outer A₀ base h₀ L m s Q E B F X N T hk hd hu hret
  refine wpAny_call ?_
  k_dflt ktr_enter
  k_steps
  · exfalso
    rename (_ : Int) ≠ _ => hn
    rw [Int.toNat_natCast] at hn
    exact hn hdue
  · rename _ < _ ∧ _ => hl1
    obtain ⟨_, _, hrr, hall⟩ := hl1
    rename News h₀ L _ _ => kN
    have e3 : (((due rs : Nat) : Int) + 1).toNat = due rs + 1 := by omega
    simp only [Int.toNat_natCast, e3] at kN
    exact hret _ _ _ _ (by k_asm) kN ⟨_, _, _, rfl, sub3, hrr, kst_ltOf hall⟩
end Mine
theorem Mine.freshD6 : (0 : Nat) = 0 := by
  w_top off
  first | walk1 | rfl
namespace Mine
open Classical

local macro_rules | `(tactic| k_mem) => `(tactic| assumption)
local macro_rules | `(tactic| k_room) => `(tactic| ktr_room)
local macro_rules | `(tactic| k_units) => `(tactic| ktr_units)
local macro_rules | `(tactic| walk_at "call builtin:len") => `(tactic| (k_here; (with_reducible show wpAny _ _ (call (Value.builtin "len") [Value.ref _]) _ _ _); k_dflt (refine' rows_len ?k1 ?k2 ?k3 ?k4 ?_; (case k1 => k_asm); (case k2 => k_mem); (case k3 => assumption); (case k4 => assumption); k_whole)))
local macro_rules | `(tactic| walk_at "subscriptTail") => `(tactic| (k_here; (with_reducible show wpAny _ _ (subscriptTail _ _ (Value.ref _) (Value.int _ _)) _ _ _); (with_unfolding_all refine' rows_item ?k1 ?k2 ?k3 ?k4 ?k5 ?k6 ?_ ?k7; (case k1 => k_asm); (case k2 => k_mem); (case k3 => assumption); (case k4 => (first | omega | ((simp only [Int.fdiv_eq_ediv_of_nonneg _ (show (0 : Int) ≤ 2 by decide)]); omega))); (case k5 => (first | omega | ((simp only [Int.fdiv_eq_ediv_of_nonneg _ (show (0 : Int) ≤ 2 by decide)]); omega))); (case k6 => (first | omega | ((simp only [Int.fdiv_eq_ediv_of_nonneg _ (show (0 : Int) ≤ 2 by decide)]); omega))); (case k7 => with_unfolding_all rfl); k_whole); intro p' kv' t' hp' hkv'))
local macro_rules | `(tactic| walk_at "subscriptTail") => `(tactic| (k_here; (with_reducible show wpAny _ _ (subscriptTail _ _ (Value.ref _) (Value.int _ _)) _ _ _); k_dflt (refine' item_tupleT ?t ?a ?b ?c ?d ?_; (case t => exact News.isTup (by k_asm) (by k_mem)); (case a => decide); (case b => decide); (case c => rfl); (case d => rfl); k_whole)))
local macro_rules | `(tactic| walk_at "compareOp Lt") => `(tactic| (k_here; (with_reducible show wpAny _ _ (compareOp CmpOp.Lt _ _) _ _ _); k_dflt (refine' key_lt ?k1 ?k2 ?k3 ?k5 ?k4 ?_; (case k1 => k_asm); (case k2 => assumption); (case k3 => assumption); (case k5 => (intro p9 hp9; k_mem)); (case k4 => ktr_units); k_whole)))
local macro_rules | `(tactic| walk_at "ite") => `(tactic| (refine split_dec ?_ ?_ <;> intro _))
local macro_rules | `(tactic| k_steps) => `(tactic| repeat' ((fail_if_success (with_reducible show wpAny _ _ (exec (Stmt.While _ _ _ _) _) _ _ _)); (fail_if_success (with_reducible show KswEnd _ _ _ _ _ _ _ _ _ _ _ _)); first | (k_unfold; (try dsimp only)) | (k_end; wrow_close) | walk1 | (dsimp only; walk1) | (leave1; walk_say "STEP leave1"; try dsimp only) | fail "no step"))
local macro_rules | `(tactic| walk_at "callWith ref") => `(tactic| (k_here; k_dflt (refine' callWith_F ?k1 ?_; (case k1 => exact FnAt.of (by k_asm) (by k_mem)); k_whole)))
local macro_rules | `(tactic| walk_at "FnAt") => `(tactic| (k_dflt (exact FnAt.of (by k_asm) (by k_mem))))
local macro_rules | `(tactic| walk_at "call ref") => `(tactic| (k_here; (try dsimp only [List.nil_append, List.cons_append]); (with_reducible show wpAny _ _ (call (Value.ref _) [Value.int _ _]) _ _ _); k_dflt (refine' ctr_use ?hC ?k1 ?k2 ?k3 ?k4 ?k5 ?kK ?kd ?ku ?_; (case hC => assumption); (case k1 => k_asm); (case k2 => k_asm); (case k3 => k_asm); (case k4 => k_asm); (case k5 => k_asm); (case kK => first | exact rfl | assumption); (case kd => ktr_room); (case ku => ktr_units)); intro r9 news9 h' tk' F' N' hP; (try k_fold)))

theorem reorg2 {a b : Addr × Obj} {ex l : List (Addr × Obj)} : ∀ p ∈ a :: b :: (ex ++ l), p ∈ ex ++ a :: b :: l := fun p hp => by
  simp only [List.mem_cons, List.mem_append] at hp ⊢
  rcases hp with h | h | h | h <;> simp [h]

section
variable {prog : Program} {w : World} {A : Around} {E : Value → Shared → Prop} {s : Shared} {h₀ : Heap} {L rr : Addr} {m : Str → Option Value} {tl : List (Addr × Obj)} {n : Nat} {y : Value} {vs : List Value} {x : Int} {u : Tok} {Q : Value → Shared → Prop}
theorem ins_led (F : Fr h₀ L s.heap m) (N : News h₀ L s.heap ((rr, listOf vs.toArray n) :: tl)) (hoff : ∀ p ∈ tl, p.1 ≠ rr) (h0 : 0 ≤ x) (h1 : x ≤ (vs.length : Int)) (hlen : vs.length < 1000)
    (h : ∀ h', Fr h₀ L h' m → News h₀ L h' ((rr, listOf (vs.take x.toNat ++ y :: vs.drop x.toNat).toArray (n + 1)) :: tl) → Q .none { s with heap := h' }) :
    wpAny (model prog w) A (call (.builtin "list.insert") [.ref rr, .int x u, y]) Q E s := by
  have e : (if x < 0 then (x + (vs.length : Int)).toNat else min x.toNat vs.length) = x.toNat := by rw [if_neg (by omega)]; omega
  refine kl_insert F N ?_ (l := vs.take x.toNat ++ y :: vs.drop x.toNat) ?_ (Upd.head hoff) (by rw [List.toList_toArray, sizeLine_eq]; omega) h
  · unfold Builtin.List.listFitsIndex
    simp only [Bool.and_eq_true, decide_eq_true_eq]
    omega
  · unfold kl_ins
    rw [List.toList_toArray, e]
end

theorem reorg4 {a b c d : Addr × Obj} {l : List (Addr × Obj)} : ∀ p ∈ d :: a :: c :: l, p ∈ a :: b :: c :: d :: l := fun p hp => by
  simp only [List.mem_cons] at hp ⊢
  rcases hp with h | h | h | h <;> simp [h]
theorem reorg5 {a c d : Addr × Obj} {ex news rest : List (Addr × Obj)} (e : rest = ex ++ news) : ∀ p ∈ c :: d :: ((a :: ex) ++ news), p ∈ d :: a :: c :: rest := fun p hp => by
  rw [e]
  simp only [List.mem_cons, List.mem_append] at hp ⊢
  rcases hp with h | h | (h | h) | h <;> simp [h]

def PushPost (tup : Bool) (k : Int × Int) (v : Int) (u : Tok) (ns vs : List Value) (rs : List Row) (rr nk : Addr) (n n1 : Nat) (news : List (Addr × Obj)) (r' : Value) (news' : List (Addr × Obj)) : Prop :=
  r' = .none ∧ ∃ (pos : Nat) (vs' : List Value) (n' n1' : Nat) (ex : List (Addr × Obj)), pos ≤ rs.length ∧ (∀ i, i < pos → ¬ klt k (rs.getD i default).1) ∧ (∀ i, pos ≤ i → i < rs.length → klt k (rs.getD i default).1) ∧
      RowsV tup (ex ++ news) vs' (rs.take pos ++ (k, v) :: rs.drop pos) ∧ (∀ p ∈ ex, p.2.cls = .type "tuple" ∧ nk < p.1 ∧ rr < p.1 ∧ ∀ q ∈ news, q.1 < p.1) ∧
      ∀ p ∈ (nk, listOf (ns ++ [Value.int v u]).toArray n1') :: (rr, listOf vs'.toArray n') :: (ex ++ news), p ∈ news'
theorem PushPost.intro {tup : Bool} {k : Int × Int} {v : Int} {u : Tok} {ns vs : List Value} {rs : List Row} {rr nk D : Addr} {n n1 n' n1' pos : Nat} {news ex rest : List (Addr × Obj)} {kv : Value} (hrest : rest = ex ++ news)
    (h1 : pos ≤ rs.length) (h2 : ∀ i, i < pos → ¬ klt k (rs.getD i default).1) (h3 : ∀ i, pos ≤ i → i < rs.length → klt k (rs.getD i default).1) (hv : RowsV tup rest vs rs) (hk : KeyV tup rest kv k)
    (hx : ∀ p ∈ ex, p.2.cls = .type "tuple" ∧ ∀ q ∈ (nk, listOf (ns ++ [Value.int v u]).toArray n1') :: (rr, listOf vs.toArray n) :: news, q.1 < p.1) (g1 : nk < D) (g2 : rr < D) (g3 : ∀ p ∈ rest, p.1 < D) :
    PushPost tup k v u ns vs rs rr nk n n1 news .none ((rr, listOf (vs.take pos ++ .ref D :: vs.drop pos).toArray n') :: (D, tupO [kv, .int v u]) :: (nk, listOf (ns ++ [Value.int v u]).toArray n1') :: rest) := by
  have hs : ∀ p ∈ rest, p ∈ ((D, tupO [kv, .int v u]) :: ex) ++ news := fun p hp => by rw [hrest] at hp; exact List.Mem.tail _ hp
  have hv' := hv.mono hs
  refine ⟨rfl, pos, _, n', n1', (D, tupO [kv, .int v u]) :: ex, h1, h2, h3, (hv'.take pos).append (show RowsV tup _ (.ref D :: vs.drop pos) ((k, v) :: rs.drop pos) from ⟨⟨D, kv, u, rfl, List.Mem.head _, hk.mono hs⟩, hv'.drop pos⟩), fun p hp => ?_, reorg5 hrest⟩
  rcases List.mem_cons.mp hp with rfl | hp
  · exact ⟨rfl, g1, g2, fun q hq => g3 q (by rw [hrest]; exact List.mem_append_right _ hq)⟩
  · obtain ⟨c1, c2⟩ := hx p hp
    exact ⟨c1, c2 _ (List.Mem.head _), c2 _ (List.Mem.tail _ (List.Mem.head _)), fun q hq => c2 q (List.Mem.tail _ (List.Mem.tail _ hq))⟩

theorem fdiv_mid {lo hi : Int} (h : lo < hi) : lo ≤ (lo + hi).fdiv 2 ∧ (lo + hi).fdiv 2 < hi := by
  rw [Int.fdiv_eq_ediv_of_nonneg _ (by decide)]; omega

theorem ctr_push {w : World} {pp : Program} {ll : List Str} {mean : ExcName → Option Value} {mg mb : Str → Option Value} {news : List (Addr × Obj)} {q d rr f nk : Addr} {h1 h2 : Int} {t1 t2 : Tok} {oc : Value} {od : Option Addr} {fd : FuncData} {sl : Array (Option Value)} {n n1 : Nat}
    {vs ns : List Value} {rs : List Row} {tup : Bool} {v : Int} {u : Tok} {k : Int × Int}
    (hq : (q, instObj 52 d) ∈ news) (hdd : (d, qDict h1 h2 t1 t2 (.ref f) rr) ∈ news) (hf : (f, (⟨oc, od, .func fd, sl⟩ : Obj)) ∈ news) (hoff : ∀ p ∈ news, p.1 ≠ rr ∧ p.1 ≠ nk) (hne : rr ≠ nk)
    (hv : RowsV tup news vs rs) (hlen : rs.length < 1000)
    (hmono : ∀ i j, i ≤ j → j < rs.length → klt k (rs.getD i default).1 → klt k (rs.getD j default).1)
    (hC : Ctr w pp ll mean mg mb 8 (.ref f) [.int v u] ((nk, listOf ns.toArray n1) :: (rr, listOf vs.toArray n) :: news) (fun r news' => ∃ n', KeyPost tup k ((nk, listOf (ns ++ [Value.int v u]).toArray n') :: (rr, listOf vs.toArray n) :: news) r news')) :
    Ctr w pp ll mean mg mb 10 (.ref 42) [.ref q, .int v u] ((nk, listOf ns.toArray n1) :: (rr, listOf vs.toArray n) :: news) (PushPost tup k v u ns vs rs rr nk n n1 news) := by
  unfold Ctr
  k_fill
  intro dp un gd cn cs a ccd cl outer A₀ base h₀ L m s Q E B F X N T hk hd hu hret
  refine wpAny_call ?_
  k_dflt ktr_enter
  rename Fr _ _ _ (fun y => List.lookup y _) => lF0
  replace lF0 : Fr _ _ _ (fun y => List.lookup y [(Str.ofString "value", Value.int v u), (Str.ofString "self", Value.ref q)]) := lF0
  k_steps
  rename ∃ n', KeyPost _ _ _ _ _ => hP
  obtain ⟨n9, ex, e9, hkv, hx⟩ := hP
  subst e9
  rename News _ _ _ _ => N9
  have N2 := kst_newsOf N9 reorg2
  obtain ⟨rest, hrest⟩ : ∃ rest, rest = ex ++ news := ⟨_, rfl⟩
  have hq2 : (q, instObj 52 d) ∈ rest := by rw [hrest]; exact List.mem_append_right _ hq
  have hdd2 : (d, qDict h1 h2 t1 t2 (.ref f) rr) ∈ rest := by rw [hrest]; exact List.mem_append_right _ hdd
  have hv2 : RowsV tup rest vs rs := by rw [hrest]; exact hv.mono fun p hp => List.mem_append_right _ hp
  have hk2 := KeyV.mono (news' := rest) hkv (by rw [hrest]; exact fun p hp => List.mem_append_left _ hp)
  rw [← hrest] at N2
  clear N9 hq hdd hf hv hkv
  try k_sweep
  k_steps
  rename Fr _ _ _ _ => lF'
  rename News _ _ _ _ => lN'
  with_unfolding_all refine ksw_while (σ := Int × Tok × Int × Tok) (fun _ => _) (fun c => [(Str.ofString "low", .int c.1 c.2.1), (Str.ofString "high", .int c.2.2.1 c.2.2.2)]) (fun _ => True) [Str.ofString "middle"] (fun c => 0 ≤ c.1 ∧ c.1 ≤ c.2.2.1 ∧ c.2.2.1 ≤ (rs.length : Int) ∧ (∀ i : Nat, (i : Int) < c.1 → ¬ klt k (rs.getD i default).1) ∧ ∀ i : Nat, c.2.2.1 ≤ (i : Int) → i < rs.length → klt k (rs.getD i default).1) (fun c => (c.2.2.1 - c.1).toNat) ((0 : Int), _, (rs.length : Int), _) lF' lN' trivial (List.forall_mem_cons.mpr ⟨rfl, List.forall_mem_cons.mpr ⟨rfl, List.forall_mem_nil _⟩⟩) ⟨Int.le_refl _, (by show (0 : Int) ≤ (rs.length : Int); omega), Int.le_refl _, (fun i hi => absurd (show (i : Int) < 0 from hi) (by omega)), (fun i hi hi2 => absurd (show (rs.length : Int) ≤ i from hi) (by omega))⟩ ?_
  clear lF' lN'
  rintro ⟨lo, tlo, hi, thi⟩ u1 h tk1 - ⟨hlo, hle, hhi, hbel, habv⟩ F₁ N₁
  dsimp only [kstB, envOf] at F₁ N₁ hlo hle hhi hbel habv
  (try k_fold)
  k_steps
  · obtain ⟨hm2, hm3⟩ := fdiv_mid (by assumption)
    rename klt _ _ => hlt
    generalize (lo + hi).fdiv 2 = mid at *
    refine ksw_end (lo, tlo, mid, _) (by k_asm) (by k_asm) (fun p hp => hp) trivial (List.forall_mem_cons.mpr ⟨rfl, List.forall_mem_cons.mpr ⟨rfl, List.forall_mem_nil _⟩⟩) (by ksw_same) ⟨hlo, hm2, (by show mid ≤ _; omega), hbel, fun i hi1 hi2 => ?_⟩ (by show (mid - lo).toNat < (hi - lo).toNat; omega)
    exact hmono mid.toNat i (by have : mid ≤ (i : Int) := hi1; omega) hi2 hlt
  · obtain ⟨hm2, hm3⟩ := fdiv_mid (by assumption)
    rename ¬ klt _ _ => hlt
    generalize (lo + hi).fdiv 2 = mid at *
    refine ksw_end (mid + 1, _, hi, thi) (by k_asm) (by k_asm) (fun p hp => hp) trivial (List.forall_mem_cons.mpr ⟨rfl, List.forall_mem_cons.mpr ⟨rfl, List.forall_mem_nil _⟩⟩) (by ksw_same) ⟨(by show 0 ≤ mid + 1; omega), (by show mid + 1 ≤ hi; omega), hhi, fun i hi1 hi2 => ?_, habv⟩ (by show (hi - (mid + 1)).toNat < (hi - lo).toNat; omega)
    exact hlt (hmono i mid.toNat (by have : (i : Int) < mid + 1 := hi1; omega) (by omega) hi2)
  · have hlh : lo = hi := by have := ‹¬ lo < hi›; omega
    have hvl := hv2.length
    rename _ < _ ∧ _ => hl1
    obtain ⟨g1, g2, g3, g4⟩ := hl1
    rename _ < _ ∧ _ => hl2
    obtain ⟨g5, g6, g7⟩ := hl2
    rename Fr _ _ _ _ => F5
    rename News _ _ _ _ => N5
    have hrest_off : ∀ p ∈ rest, p.1 ≠ rr := fun p hp => by
      rw [hrest] at hp
      rcases List.mem_append.mp hp with hp | hp
      · exact Nat.ne_of_gt ((hx p hp).2 (rr, listOf vs.toArray n) (List.Mem.tail _ (List.Mem.head _)))
      · exact (hoff p hp).1
    have N6 := kst_newsOf N5 reorg4
    refine ins_led (by k_asm) N6 (List.forall_mem_cons.mpr ⟨Nat.ne_of_gt g3, List.forall_mem_cons.mpr ⟨hne.symm, hrest_off⟩⟩) hlo (by omega) (by omega) (fun h7 F7 N7 => ?_)
    k_steps
    exact hret _ _ _ _ (by k_asm) (by k_asm) (PushPost.intro hrest (by omega) (fun i hi => hbel i (by omega)) (fun i hi hi2 => habv i (by omega) hi2) hv2 hk2 hx g2 g3 (kst_ltOf g4))
end Mine
theorem Mine.freshE1 : (0 : Nat) = 0 := by
  w_top off
  first | walk1 | rfl
namespace Mine

section
variable {prog : Program} {w : World} {A : Around} {E : Value → Shared → Prop} {s : Shared} {h₀ : Heap} {L l e : Addr} {m : Str → Option Value} {news tl : List (Addr × Obj)} {us : List Value} {n n' : Nat}
theorem eq_nil {Q : Value → Shared → Prop} (N : News h₀ L s.heap news) (hl : (l, listOf us.toArray n) ∈ news) (he : (e, listOf (List.toArray []) n') ∈ news) (hu : A.units < cLine) (h : Q (.bool (decide (us = []))) s) :
    wpAny (model prog w) A (compareOp .Eq (.ref l) (.ref e)) Q E s := by
  cases us with
  | nil => exact cmp_ofEq (richCompare_meets_room (T := "list") ⟨_, (N _ hl).1, rfl⟩ ⟨_, (N _ he).1, rfl⟩ PySem.F.slot_list_eq PySem.F.entry_list_eq (PySem.F.args_list_eq_2 _ _) (PySem.SeqAt.list_eqAt l e _ _ _ _ _ _ _ _ rfl (fun _ => true))
      ⟨(N _ hl).1, (N _ he).1, (fun j h1 _ => absurd h1 (Nat.not_lt_zero _)), (fun q => by cases q), h⟩ hu)
  | cons x r => exact cmp_ofEq (richCompare_meets_room (T := "list") ⟨_, (N _ hl).1, rfl⟩ ⟨_, (N _ he).1, rfl⟩ PySem.F.slot_list_eq PySem.F.entry_list_eq (PySem.F.args_list_eq_2 _ _) (PySem.SeqAt.list_eq_lengthsAt l e _ _ _ _ _ _ _ _ (by simp))
      ⟨(N _ hl).1, (N _ he).1, (fun q => by cases q), h⟩ hu)
theorem ne_nil {Q : Value → Shared → Prop} (N : News h₀ L s.heap news) (hl : (l, listOf us.toArray n) ∈ news) (he : (e, listOf (List.toArray []) n') ∈ news) (hu : A.units < cLine) (h : Q (.bool (decide (us ≠ []))) s) :
    wpAny (model prog w) A (compareOp .NotEq (.ref l) (.ref e)) Q E s := by
  cases us with
  | nil => exact cmp_ofNotEq (richCompare_meets_room (T := "list") ⟨_, (N _ hl).1, rfl⟩ ⟨_, (N _ he).1, rfl⟩ PySem.F.slot_list_ne PySem.F.entry_list_ne (PySem.F.args_list_ne_2 _ _) (PySem.SeqAt.list_neAt l e _ _ _ _ _ _ _ _ rfl (fun _ => true))
      ⟨(N _ hl).1, (N _ he).1, (fun j h1 _ => absurd h1 (Nat.not_lt_zero _)), (fun q => by cases q), h⟩ hu)
  | cons x r => exact cmp_ofNotEq (richCompare_meets_room (T := "list") ⟨_, (N _ hl).1, rfl⟩ ⟨_, (N _ he).1, rfl⟩ PySem.F.slot_list_ne PySem.F.entry_list_ne (PySem.F.args_list_ne_2 _ _) (PySem.SeqAt.list_ne_lengthsAt l e _ _ _ _ _ _ _ _ (by simp))
      ⟨(N _ hl).1, (N _ he).1, (fun q => by cases q), h⟩ hu)
theorem set_led {k : Int} {t : Tok} {v : Value} {Q : Unit → Shared → Prop} (F : Fr h₀ L s.heap m) (N : News h₀ L s.heap ((l, listOf us.toArray n) :: tl)) (hoff : ∀ p ∈ tl, p.1 ≠ l) (h0 : 0 ≤ k) (h1 : k < (us.length : Int)) (hz : us.length ≤ 64)
    (h : ∀ h', Fr h₀ L h' m → News h₀ L h' ((l, listOf (us.set k.toNat v).toArray n) :: tl) → Q () { s with heap := h' }) :
    wpAny (model prog w) A (setItem (.ref l) (.int k t) v) Q E s := by
  have z := N (l, listOf us.toArray n) (List.Mem.head _)
  refine ki_setAt z.1 h0 (by omega) (by rw [List.size_toArray]; exact h1) (h _ (F.change (Heap.SameBut.update ..) z.2.1 z.2.2) (ki_turn (pre := []) _ N (fun _ h => nomatch h) hoff ?_ ?_))
  · show us.toArray.setIfInBounds k.toNat v = _
    apply Array.toList_inj.mp
    rw [Array.toList_setIfInBounds]
  · rw [if_pos (by simp)]

def pair2 {α : Type} (b : Bool) (x y : α) : List α := if b then [y, x] else [x, y]
theorem pair2_swap {α : Type} (b : Bool) (x y : α) : pair2 (!b) y x = pair2 b x y := by cases b <;> rfl
def ix (b : Bool) : Int := if b then 1 else 0
theorem pair_item {value slice : PySem.Expr} {b : Bool} {x y : Value} {k : Int} {t : Tok} {Q : Value → Shared → Prop} (N : News h₀ L s.heap news) (hl : (l, listOf (pair2 b x y).toArray n) ∈ news) (hk : k = ix b) (h : Q x s)
    (hs : subscripted slice false (.ref l) (.int k t) = operate [.ref l, .int k t] (getItem (.ref l) (.int k t)) := by with_unfolding_all rfl) :
    wpAny (model prog w) A (subscriptTail value slice (.ref l) (.int k t)) Q E s := by
  have hL : s.heap.IsList l (pair2 b x y).toArray := ⟨_, (N _ hl).1, rfl, n, rfl⟩
  subst hk
  exact tail_any hL.typeIs slot_list_getitem.lookup (wpAny_getItem_list hL (by cases b <;> decide) (by cases b <;> decide) (by cases b <;> rfl) h) hs
theorem one_item {value slice : PySem.Expr} {x : Value} {t : Tok} {Q : Value → Shared → Prop} (N : News h₀ L s.heap news) (hl : (l, listOf [x].toArray n) ∈ news) (h : Q x s)
    (hs : subscripted slice false (.ref l) (.int 0 t) = operate [.ref l, .int 0 t] (getItem (.ref l) (.int 0 t)) := by with_unfolding_all rfl) :
    wpAny (model prog w) A (subscriptTail value slice (.ref l) (.int 0 t)) Q E s := by
  have hL : s.heap.IsList l [x].toArray := ⟨_, (N _ hl).1, rfl, n, rfl⟩
  exact tail_any hL.typeIs slot_list_getitem.lookup (wpAny_getItem_list hL (by decide) (by decide) rfl h) hs
theorem pair_setU {b : Bool} {x y v : Value} {k : Int} {t : Tok} {news' : List (Addr × Obj)} {Q : Unit → Shared → Prop} (F : Fr h₀ L s.heap m) (N : News h₀ L s.heap news) (hk : k = ix b) (U : Upd l (listOf (pair2 b x y).toArray n) (listOf (pair2 b v y).toArray n) news news')
    (h : ∀ h', Fr h₀ L h' m → News h₀ L h' news' → Q () { s with heap := h' }) :
    wpAny (model prog w) A (setItem (.ref l) (.int k t) v) Q E s := by
  obtain ⟨pre, post, rfl, rfl, a, c⟩ := U.split
  have z := N (l, listOf (pair2 b x y).toArray n) (List.mem_append.mpr (.inr (.head _)))
  subst hk
  refine ki_setAt z.1 (by cases b <;> decide) (by cases b <;> decide) (by cases b <;> simp [ix, pair2]) (h _ (F.change (Heap.SameBut.update ..) z.2.1 z.2.2) (ki_turn _ N a c ?_ ?_))
  · show (pair2 b x y).toArray.setIfInBounds (ix b).toNat v = _
    cases b <;> rfl
  · cases b <;> rfl
theorem one_setU {x v : Value} {t : Tok} {news' : List (Addr × Obj)} {Q : Unit → Shared → Prop} (F : Fr h₀ L s.heap m) (N : News h₀ L s.heap news) (U : Upd l (listOf [x].toArray n) (listOf [v].toArray n) news news')
    (h : ∀ h', Fr h₀ L h' m → News h₀ L h' news' → Q () { s with heap := h' }) :
    wpAny (model prog w) A (setItem (.ref l) (.int 0 t) v) Q E s := by
  obtain ⟨pre, post, rfl, rfl, a, c⟩ := U.split
  have z := N (l, listOf [x].toArray n) (List.mem_append.mpr (.inr (.head _)))
  exact ki_setAt z.1 (by decide) (by decide) (by simp) (h _ (F.change (Heap.SameBut.update ..) z.2.1 z.2.2) (ki_turn _ N a c rfl rfl))
theorem pair_set {b : Bool} {x y v : Value} {k : Int} {t : Tok} {Q : Unit → Shared → Prop} (F : Fr h₀ L s.heap m) (N : News h₀ L s.heap ((l, listOf (pair2 b x y).toArray n) :: tl)) (hoff : ∀ p ∈ tl, p.1 ≠ l) (hk : k = ix b)
    (h : ∀ h', Fr h₀ L h' m → News h₀ L h' ((l, listOf (pair2 b v y).toArray n) :: tl) → Q () { s with heap := h' }) :
    wpAny (model prog w) A (setItem (.ref l) (.int k t) v) Q E s := by
  subst hk
  refine set_led F N hoff (by cases b <;> decide) (by cases b <;> simp [ix, pair2]) (by cases b <;> simp [pair2]) (fun h' F' N' => h h' F' ?_)
  have e : (pair2 b x y).set (ix b).toNat v = pair2 b v y := by cases b <;> rfl
  rw [e] at N'
  exact N'
end
end Mine
theorem Mine.freshP1 : (0 : Nat) = 0 := by
  w_top off
  first | walk1 | rfl
namespace Mine
open Classical
noncomputable def inner (x : Row) : List Row → List Row
  | [] => [x]
  | y :: r => if klt x.1 y.1 then x :: y :: r else y :: inner x r
noncomputable def isort (rs : List Row) : List Row := rs.foldl (fun acc x => inner x acc) []

theorem klt_total {a b : Int × Int} (h : ¬ klt a b) (h2 : ¬ klt b a) : a = b := by
  unfold klt at *
  obtain ⟨a1, a2⟩ := a; obtain ⟨b1, b2⟩ := b
  simp only at *
  have : a1 = b1 ∧ a2 = b2 := by omega
  simp [this]
noncomputable def SortedR : List Row → Prop
  | [] => True
  | x :: r => (∀ y ∈ r, ¬ klt y.1 x.1) ∧ SortedR r
theorem klt_trans {a b c : Int × Int} (h : klt a b) (h2 : ¬ klt c b) : klt a c := by
  unfold klt at *; omega
theorem inner_mem {x : Row} : ∀ {l : List Row} {y : Row}, y ∈ inner x l → y = x ∨ y ∈ l
  | [], y, h => by simp [inner] at h; exact .inl h
  | z :: r, y, h => by
    unfold inner at h
    split at h
    · rcases List.mem_cons.mp h with h | h
      · exact .inl h
      · exact .inr h
    · rcases List.mem_cons.mp h with h | h
      · exact .inr (by rw [h]; exact List.Mem.head _)
      · rcases inner_mem h with h | h
        · exact .inl h
        · exact .inr (List.Mem.tail _ h)
theorem inner_sorted {x : Row} : ∀ {l : List Row}, SortedR l → SortedR (inner x l)
  | [], _ => ⟨(fun _ h => nomatch h), trivial⟩
  | z :: r, ⟨h1, h2⟩ => by
    unfold inner
    split
    · rename_i hx
      refine ⟨fun y hy => ?_, h1, h2⟩
      rcases List.mem_cons.mp hy with rfl | hy
      · unfold klt at *; omega
      · have := h1 y hy; unfold klt at *; omega
    · rename_i hx
      refine ⟨fun y hy => ?_, inner_sorted h2⟩
      rcases inner_mem hy with rfl | hy
      · exact hx
      · exact h1 y hy
theorem foldl_snoc (rs : List Row) (x : Row) : isort (rs ++ [x]) = inner x (isort rs) := by simp [isort]
theorem isort_sorted (rs : List Row) : SortedR (isort rs) := by
  have all : ∀ (rs : List Row) acc, SortedR acc → SortedR (rs.foldl (fun acc x => inner x acc) acc) := by
    intro rs
    induction rs with
    | nil => exact fun acc h => h
    | cons x r ih => exact fun acc h => ih _ (inner_sorted h)
  exact all rs [] trivial
theorem inner_length {x : Row} : ∀ {l : List Row}, (inner x l).length = l.length + 1
  | [] => rfl
  | z :: r => by
    unfold inner
    split
    · simp
    · simp [inner_length]
theorem isort_length (rs : List Row) : (isort rs).length = rs.length := by
  have all : ∀ (rs : List Row) acc, (rs.foldl (fun acc x => inner x acc) acc).length = acc.length + rs.length := by
    intro rs
    induction rs with
    | nil => intro acc; simp
    | cons x r ih => intro acc; simp only [List.foldl_cons, ih, inner_length, List.length_cons]; omega
  have := all rs []
  simpa [isort] using this
theorem getD_mem {l : List Row} {i : Nat} (h : i < l.length) : l.getD i default ∈ l := by
  simp [List.getD, h]
theorem sorted_mono {x : Int × Int} : ∀ {l : List Row}, SortedR l → ∀ i j, i ≤ j → j < l.length → klt x (l.getD i default).1 → klt x (l.getD j default).1
  | [], _, _, _, _, h, _ => absurd h (Nat.not_lt_zero _)
  | z :: r, ⟨h1, h2⟩, 0, 0, _, _, h => h
  | z :: r, ⟨h1, h2⟩, 0, j + 1, _, hj, h => by
    have hj' : j < r.length := by simpa using hj
    exact klt_trans h (h1 _ (getD_mem hj'))
  | z :: r, ⟨h1, h2⟩, i + 1, 0, hij, _, _ => absurd hij (by omega)
  | z :: r, ⟨h1, h2⟩, i + 1, j + 1, hij, hj, h => sorted_mono h2 i j (by omega) (by simpa using hj) h
theorem inner_pos {x : Row} : ∀ {l : List Row} {pos : Nat}, pos ≤ l.length → (∀ i, i < pos → ¬ klt x.1 (l.getD i default).1) → (∀ i, pos ≤ i → i < l.length → klt x.1 (l.getD i default).1) →
    l.take pos ++ x :: l.drop pos = inner x l
  | [], pos, h, _, _ => by
    have : pos = 0 := by simpa using h
    subst this; rfl
  | z :: r, 0, _, _, h3 => by
    have := h3 0 (Nat.le_refl _) (by simp)
    unfold inner
    rw [if_pos (by simpa using this)]; rfl
  | z :: r, pos + 1, h, h2, h3 => by
    have hz := h2 0 (by omega)
    unfold inner
    rw [if_neg (by simpa using hz)]
    have ih := inner_pos (x := x) (l := r) (pos := pos) (by simpa using h) (fun i hi => by have := h2 (i + 1) (by omega); simpa using this) (fun i hi hi2 => by have := h3 (i + 1) (by omega) (by simpa using hi2); simpa using this)
    simp only [List.take_succ_cons, List.drop_succ_cons, List.cons_append, ih]

theorem dueN_snoc (rs : List Row) (x : Row) : ∀ i, i ≤ rs.length → dueN (rs ++ [x]) i = dueN rs i
  | 0, _ => rfl
  | i + 1, h => by
    have ih := dueN_snoc rs x i (by omega)
    have hle := dueN_le rs i
    have e1 : (rs ++ [x]).getD i default = rs.getD i default := by simp [List.getD, List.getElem?_append_left (show i < rs.length by omega)]
    have e2 : (rs ++ [x]).getD (dueN rs i) default = rs.getD (dueN rs i) default := by simp [List.getD, List.getElem?_append_left (show dueN rs i < rs.length by omega)]
    unfold dueN
    rw [ih, e1, e2]
theorem due_lt' {rs : List Row} (h : rs ≠ []) : due rs < rs.length := by
  have := dueN_le rs rs.length
  have : 0 < rs.length := List.length_pos_iff.mpr h
  unfold due; omega
theorem due_snoc {rs : List Row} (x : Row) (hn : rs ≠ []) : due (rs ++ [x]) = if klt x.1 (rs.getD (due rs) default).1 then rs.length else due rs := by
  have hd := due_lt' hn
  have e0 : due (rs ++ [x]) = dueN (rs ++ [x]) (rs.length + 1) := by unfold due; simp
  rw [e0]
  show (if klt ((rs ++ [x]).getD rs.length default).1 ((rs ++ [x]).getD (dueN (rs ++ [x]) rs.length) default).1 then rs.length else dueN (rs ++ [x]) rs.length) = _
  rw [dueN_snoc rs x rs.length (Nat.le_refl _)]
  have e1 : (rs ++ [x]).getD rs.length default = x := by simp [List.getD]
  have e2 : (rs ++ [x]).getD (due rs) default = rs.getD (due rs) default := by simp [List.getD, List.getElem?_append_left hd]
  rw [e1]
  show (if klt x.1 ((rs ++ [x]).getD (due rs) default).1 then rs.length else due rs) = _
  rw [e2]
theorem snoc_ind {P : List Row → Prop} (h0 : P []) (hs : ∀ l x, P l → P (l ++ [x])) (l : List Row) : P l := by
  have all : ∀ l : List Row, P l.reverse := by
    intro l
    induction l with
    | nil => exact h0
    | cons x r ih => rw [List.reverse_cons]; exact hs _ _ ih
  have := all l.reverse
  rwa [List.reverse_reverse] at this
theorem isort_due (rs : List Row) : rs ≠ [] → isort rs = rs.getD (due rs) default :: isort (rs.take (due rs) ++ rs.drop (due rs + 1)) := by
  refine snoc_ind (P := fun rs => rs ≠ [] → isort rs = rs.getD (due rs) default :: isort (rs.take (due rs) ++ rs.drop (due rs + 1))) (fun h => absurd rfl h) (fun l x ih _ => ?_) rs
  by_cases hl : l = []
  · subst hl
    have e : due ([] ++ [x]) = 0 := by
      show dueN [x] 1 = 0
      unfold dueN
      split <;> rfl
    rw [e]
    rfl
  · have hd := due_lt' hl
    rw [foldl_snoc, due_snoc x hl, ih hl]
    by_cases hk : klt x.1 (l.getD (due l) default).1
    · rw [if_pos hk]
      have e1 : (l ++ [x]).getD l.length default = x := by simp [List.getD]
      have e2 : (l ++ [x]).take l.length ++ (l ++ [x]).drop (l.length + 1) = l := by simp
      rw [e1, e2, ih hl]
      show (if klt x.1 (l.getD (due l) default).1 then _ else _) = _
      rw [if_pos hk]
    · rw [if_neg hk]
      have e1 : (l ++ [x]).getD (due l) default = l.getD (due l) default := by simp [List.getD, List.getElem?_append_left hd]
      have e2 : (l ++ [x]).take (due l) ++ (l ++ [x]).drop (due l + 1) = (l.take (due l) ++ l.drop (due l + 1)) ++ [x] := by
        rw [List.take_append_of_le_length (by omega), List.drop_append_of_le_length (by omega), List.append_assoc]
      rw [e1, e2, foldl_snoc]
      show (if klt x.1 (l.getD (due l) default).1 then _ else _) = _
      rw [if_neg hk]
end Mine
theorem Mine.freshE2 : (0 : Nat) = 0 := by
  w_top off
  first | walk1 | rfl
namespace Mine

def LamOK (w : World) (pp : Program) (ll : List Str) (mean : ExcName → Option Value) (mg mb : Str → Option Value) (f nk ls : Addr) (kd : Int) (cst : List (Addr × Obj)) : Prop :=
  ∀ (v : Int) (u : Tok) (sh : Int) (ts : Tok) (c n : Nat) (ns : List Value) (rest : List (Addr × Obj)), ns.length < 1000 → (∀ p ∈ cst, p ∈ rest) → (ls, listOf [Value.int sh ts].toArray c) ∈ rest → (∀ p ∈ rest, p.1 ≠ nk) →
    Ctr w pp ll mean mg mb 8 (.ref f) [.int v u] ((nk, listOf ns.toArray n) :: rest) (fun r news' => ∃ n', KeyPost (decide (kd = 3)) (keyOf kd (v + sh)) ((nk, listOf (ns ++ [Value.int v u]).toArray n') :: rest) r news')

noncomputable def lawOf (P : Params) : Option FuncData := match (hd.heap_39 P).lookup 98 with
  | some o => (match o.data with | .func fd => some fd | _ => none)
  | none => none
noncomputable def lawBody (P : Params) : List Stmt := match lawOf P with
  | some fd => (match fd.body with | .stmts b => b | _ => [])
  | none => []
noncomputable def lawScope (P : Params) : Scope := match lawOf P with
  | some fd => fd.scope
  | none => { kind := .function, names := [], isGenerator := false, isCoroutine := false }
def forBody : List Stmt → List Stmt
  | .For _ _ b _ _ :: _ => b
  | _ => []
noncomputable abbrev lawEnv (P : Params) (L a : Addr) : Env := envX (Str.ofString "law") (lawScope P) L a (.ref 97) (cellsFrom (L + 1) (lawScope P).names [])

structure QA where
  (q d rr f nk : Addr) (h1 h2 : Int) (t1 t2 tk : Tok) (kd : Int) (oc : Value) (od : Option Addr) (fd : FuncData) (sl : Array (Option Value)) (cst : List (Addr × Obj))
structure QS where
  (r p : Addr) (vs ns us ps : List Value) (n1 n2 n3 n4 : Nat) (rows : List Row) (pushed : List Int)
structure CA where
  (lq ln lk lr lp ls : Addr) (ok on os : Obj)

structure QConst (a : QA) (rest : List (Addr × Obj)) : Prop where
  q : (a.q, instObj 52 a.d) ∈ rest
  d : (a.d, qDict a.h1 a.h2 a.t1 a.t2 (.ref a.f) a.rr) ∈ rest
  f : (a.f, (⟨a.oc, a.od, .func a.fd, a.sl⟩ : Obj)) ∈ rest
  cst : ∀ p ∈ a.cst, p ∈ rest
  cstI : ∀ p ∈ a.cst, ∀ i j, p.2 ≠ itR i j
  kd0 : 0 ≤ a.kd
  kd4 : a.kd < 4
structure QOk (a : QA) (x : QS) (rest : List (Addr × Obj)) (bd : Nat) : Prop where
  vs : RowsV (decide (a.kd = 3)) rest x.vs (isort x.rows)
  us : RowsV (decide (a.kd = 3)) rest x.us x.rows
  ns : IntsAre x.ns x.pushed
  ps : IntsAre x.ps x.pushed
  hr : (x.r, listOf x.us.toArray x.n3) ∈ rest
  hp : (x.p, listOf x.ps.toArray x.n4) ∈ rest
  rb : x.rows.length ≤ bd
  pb : x.pushed.length ≤ bd
structure CConst (L : Addr) (C : CA) (b : Bool) (a o : QA) (rest : List (Addr × Obj)) : Prop where
  lq : (C.lq, listOf (pair2 b (Value.ref a.q) (.ref o.q)).toArray 0) ∈ rest
  ln : (C.ln, listOf (pair2 b (Value.ref a.nk) (.ref o.nk)).toArray 0) ∈ rest
  lk : (C.lk, listOf (pair2 b (Value.int a.kd a.tk) (.int o.kd o.tk)).toArray 0) ∈ rest
  ck : (L + 1, C.ok) ∈ rest
  cn : (L + 1 + 1, C.on) ∈ rest
  cs : (L + 1 + 1 + 1, C.os) ∈ rest
  dk : C.ok.data = .cell (some (.ref C.lk))
  dn : C.on.data = .cell (some (.ref C.ln))
  ds : C.os.data = .cell (some (.ref C.ls))
abbrev tgt (C : CA) (a o : QA) : List Addr := [a.nk, a.rr, o.nk, o.rr, C.lr, C.lp, C.ls]
abbrev lawLed (C : CA) (b : Bool) (a o : QA) (x y : QS) (sh : Int) (ts : Tok) (c1 c2 c3 : Nat) (rest : List (Addr × Obj)) : List (Addr × Obj) :=
  (a.nk, listOf x.ns.toArray x.n1) :: (a.rr, listOf x.vs.toArray x.n2) :: (o.nk, listOf y.ns.toArray y.n1) :: (o.rr, listOf y.vs.toArray y.n2) ::
  (C.lr, listOf (pair2 b (Value.ref x.r) (.ref y.r)).toArray c1) :: (C.lp, listOf (pair2 b (Value.ref x.p) (.ref y.p)).toArray c2) :: (C.ls, listOf [Value.int sh ts].toArray c3) :: rest

/-- The state of the law between two deeds, the queue in hand first. -/
def StOk (h₀ : Heap) (L : Addr) (C : CA) (b : Bool) (a o : QA) (bd : Nat) (kp : List (Addr × Obj)) (h : Heap) : Prop :=
  ∃ x y sh ts c1 c2 c3 rest, News h₀ L h (lawLed C b a o x y sh ts c1 c2 c3 rest) ∧ (∀ p ∈ kp, p ∈ rest) ∧ (∀ p ∈ rest, p.1 ∉ tgt C a o) ∧ CConst L C b a o rest ∧ QConst a rest ∧ QConst o rest ∧ QOk a x rest bd ∧ QOk o y rest bd

local macro_rules | `(tactic| k_mem) => `(tactic| assumption)
local macro_rules | `(tactic| k_units) => `(tactic| ktr_units)
local macro_rules | `(tactic| walk_at "subscriptTail") => `(tactic| (k_here; (with_reducible show wpAny _ _ (subscriptTail _ _ (Value.ref _) (Value.int _ _)) _ _ _); (with_unfolding_all refine' pair_item ?N ?m ?k ?_ ?s; (case N => k_asm); (case m => k_mem); (case k => assumption); (case s => with_unfolding_all rfl); k_whole)))
local macro_rules | `(tactic| walk_at "subscriptTail") => `(tactic| (k_here; (with_reducible show wpAny _ _ (subscriptTail _ _ (Value.ref _) (Value.int 0 _)) _ _ _); (with_unfolding_all refine' one_item ?N ?m ?_ ?s; (case N => k_asm); (case m => k_mem); (case s => with_unfolding_all rfl); k_whole)))
local macro_rules | `(tactic| walk_at "compareOp Eq ref ref") => `(tactic| (k_here; (with_reducible show wpAny _ _ (compareOp CmpOp.Eq (Value.ref _) (Value.ref _)) _ _ _); k_dflt (refine' eq_nil ?N ?l ?e ?u ?_; (case N => k_asm); (case l => k_mem); (case e => k_mem); (case u => first | ke_room | ktr_units); k_whole)))
local macro_rules | `(tactic| walk_at "compareOp NotEq ref ref") => `(tactic| (k_here; (with_reducible show wpAny _ _ (compareOp CmpOp.NotEq (Value.ref _) (Value.ref _)) _ _ _); k_dflt (refine' ne_nil ?N ?l ?e ?u ?_; (case N => k_asm); (case l => k_mem); (case e => k_mem); (case u => first | ke_room | ktr_units); k_whole)))
local macro_rules | `(tactic| k_ne) => `(tactic| first | assumption | exact Ne.symm (by assumption) | (refine neN ?_; (try dsimp only); omega))
local macro_rules | `(tactic| k_all) => `(tactic| first | assumption | exact List.forall_mem_nil _ | (refine' List.forall_mem_cons.mpr ⟨?a, ?b⟩; (case a => k_ne); (case b => k_all)))
local macro_rules | `(tactic| walk_at "setItem ref int") => `(tactic| (k_here; k_dflt (first | (refine' pair_setU ?F ?N ?k ?U ?_; (case F => k_asm); (case N => k_asm); (case k => assumption); (case U => k_upd)) | (refine' one_setU ?F ?N ?U ?_; (case F => k_asm); (case N => k_asm); (case U => k_upd))); intro h' F' N'; (try k_sweep)))
local macro_rules | `(tactic| walk_at "binaryOp Add ref ref") => `(tactic| (k_here; (with_reducible show wpAny _ _ (binaryOp _ (Value.ref _) (Value.ref _)) _ _ _); k_dflt (refine' led_add ?F ?N ?a ?b ?z ?_; (case F => k_asm); (case N => k_asm); (case a => k_mem); (case b => k_mem); (case z => ((simp only [List.length_cons, List.length_nil]); omega))); intro D' h' F' N' l1; (try k_lt l1); (try k_sweep)))
local macro_rules | `(tactic| walk_at "call ref") => `(tactic| (k_here; (try dsimp only [List.nil_append, List.cons_append]); (with_reducible show wpAny _ _ (call (Value.ref 35) [Value.ref _]) _ _ _); k_dflt (refine' ctr_use (ctr_bool ?p1 ?p2 ?p3 ?p4 ?p5) ?k1 ?k2 ?k3 ?k4 ?k5 ?kK ?kd ?ku ?_; (case k1 => k_asm); (case k2 => k_asm); (case k3 => k_asm); (case k4 => k_asm); (case k5 => k_asm); (case p1 => k_mem); (case p2 => k_mem); (case p3 => k_mem); (case p4 => assumption); (case p5 => assumption); (case kK => exact rfl); (case kd => k_room); (case ku => decide)); intro r9 news9 h' tk' F' N' hP; obtain ⟨e9, e8⟩ := hP; subst e9; subst e8; (try k_sweep)))
local macro_rules | `(tactic| k_steps) => `(tactic| repeat' ((fail_if_success (with_reducible show wpAny _ _ (call (Value.ref 63) _) _ _ _)); (fail_if_success (with_reducible show wpAny _ _ (call (Value.ref 84) _) _ _ _)); (fail_if_success (with_reducible show wpAny _ _ (call (Value.ref 42) _) _ _ _)); (fail_if_success (with_reducible show wpAny _ _ (call (Value.ref 91) _) _ _ _)); first | (k_unfold; (try dsimp only)) | (k_end; wrow_close) | walk1 | (dsimp only; walk1) | (leave1; walk_say "STEP leave1"; try dsimp only) | fail "no step"))

theorem CConst.mono {L : Addr} {C : CA} {b : Bool} {a o : QA} {rest rest' : List (Addr × Obj)} (h : CConst L C b a o rest) (hs : ∀ p ∈ rest, p ∈ rest') : CConst L C b a o rest' :=
  ⟨hs _ h.lq, hs _ h.ln, hs _ h.lk, hs _ h.ck, hs _ h.cn, hs _ h.cs, h.dk, h.dn, h.ds⟩
theorem QConst.mono {a : QA} {rest rest' : List (Addr × Obj)} (h : QConst a rest) (hs : ∀ p ∈ rest, p ∈ rest') : QConst a rest' :=
  ⟨hs _ h.q, hs _ h.d, hs _ h.f, fun p hp => hs _ (h.cst p hp), h.cstI, h.kd0, h.kd4⟩
theorem QOk.mono {a : QA} {x : QS} {rest rest' : List (Addr × Obj)} {bd bd' : Nat} (h : QOk a x rest bd) (hs : ∀ p ∈ rest, p ∈ rest') (hb : bd ≤ bd') : QOk a x rest' bd' :=
  ⟨h.vs.mono hs, h.us.mono hs, h.ns, h.ps, hs _ h.hr, hs _ h.hp, Nat.le_trans h.rb hb, Nat.le_trans h.pb hb⟩
theorem reorg7 {a b c d e f g : Addr × Obj} {ex l : List (Addr × Obj)} : ∀ p ∈ a :: b :: c :: d :: e :: f :: g :: (ex ++ l), p ∈ ex ++ a :: b :: c :: d :: e :: f :: g :: l := fun p hp => by
  simp only [List.mem_cons, List.mem_append] at hp ⊢
  rcases hp with h | h | h | h | h | h | h | h | h <;> simp [h]
theorem reorg7b {a b c d e f g : Addr × Obj} {ex l : List (Addr × Obj)} : ∀ p ∈ a :: b :: c :: d :: e :: f :: g :: (ex ++ l), p ∈ a :: b :: (ex ++ c :: d :: e :: f :: g :: l) := fun p hp => by
  simp only [List.mem_cons, List.mem_append] at hp ⊢
  rcases hp with h | h | h | h | h | h | h | h | h <;> simp [h]
theorem reorg5b {c d e f g : Addr × Obj} {ex l : List (Addr × Obj)} : ∀ p ∈ ex ++ c :: d :: e :: f :: g :: l, p ∈ c :: d :: e :: f :: g :: (ex ++ l) := fun p hp => by
  simp only [List.mem_cons, List.mem_append] at hp ⊢
  rcases hp with h | h | h | h | h | h | h <;> simp [h]
theorem KeyV.strip {tup : Bool} {l : Addr} {u : List Value} {n : Nat} {L9 : List (Addr × Obj)} {v : Value} {k : Int × Int} (h : KeyV tup ((l, listOf u.toArray n) :: L9) v k) : KeyV tup L9 v k := by
  unfold KeyV at h ⊢
  cases tup with
  | true =>
    obtain ⟨p, t1, t2, e, hm⟩ := h
    refine ⟨p, t1, t2, e, ?_⟩
    rcases List.mem_cons.mp hm with h | h
    · have := congrArg (fun q => q.2.cls) h; simp at this
    · exact h
  | false => exact h
theorem RowsV.strip {tup : Bool} {l : Addr} {u : List Value} {n : Nat} {L9 : List (Addr × Obj)} : ∀ {vs : List Value} {rs : List Row}, RowsV tup ((l, listOf u.toArray n) :: L9) vs rs → RowsV tup L9 vs rs
  | [], [], _ => trivial
  | _ :: _, _ :: _, ⟨⟨p, kv, t, e, hm, hk⟩, r⟩ => by
    refine ⟨⟨p, kv, t, e, ?_, hk.strip⟩, RowsV.strip r⟩
    rcases List.mem_cons.mp hm with h | h
    · have := congrArg (fun q => q.2.cls) h; simp at this
    · exact h
theorem off_grow {T : List Addr} {ex rest led : List (Addr × Obj)} (h1 : ∀ p ∈ rest, p.1 ∉ T) (h2 : ∀ p ∈ ex, ∀ t ∈ T, t < p.1) : ∀ p ∈ ex ++ rest, p.1 ∉ T := fun p hp => by
  rcases List.mem_append.mp hp with hp | hp
  · exact fun hm => Nat.lt_irrefl _ (h2 p hp _ hm)
  · exact h1 p hp

def TailPost (h₀ : Heap) (L : Addr) (C : CA) (b : Bool) (a o : QA) (bd : Nat) (kp : List (Addr × Obj)) (sc : Addr) (s : Shared) (f : Flow) (s' : Shared) : Prop :=
  f = .next ∧ ∃ h' tk m', s' = { s with heap := h', toks := tk } ∧ Fr h₀ L h' m' ∧ StOk h₀ L C b a o bd kp h' ∧ m' (Str.ofString "queues") = some (.ref C.lq) ∧ m' (Str.ofString "rows") = some (.ref C.lr) ∧ m' (Str.ofString "pushed") = some (.ref C.lp) ∧ m' (Str.ofString "script") = some (.ref sc)
theorem TailPost.intro {h₀ : Heap} {L : Addr} {C : CA} {b : Bool} {a o : QA} {bd : Nat} {sc : Addr} {s : Shared} {h' : Heap} {tk : Nat} {m' : Str → Option Value} {r p : Addr} {vs ns us ps : List Value} {n1 n2 n3 n4 c1 c2 c3 : Nat} {rows : List Row} {pushed : List Int} {y : QS} {sh : Int} {ts : Tok} {rest kp : List (Addr × Obj)}
    (F : Fr h₀ L h' m') (hkp : ∀ p ∈ kp, p ∈ rest) (N : News h₀ L h' ((a.nk, listOf ns.toArray n1) :: (a.rr, listOf vs.toArray n2) :: (o.nk, listOf y.ns.toArray y.n1) :: (o.rr, listOf y.vs.toArray y.n2) ::
      (C.lr, listOf (pair2 b (Value.ref r) (.ref y.r)).toArray c1) :: (C.lp, listOf (pair2 b (Value.ref p) (.ref y.p)).toArray c2) :: (C.ls, listOf [Value.int sh ts].toArray c3) :: rest))
    (hoff : ∀ p ∈ rest, p.1 ∉ tgt C a o) (cC : CConst L C b a o rest) (aC : QConst a rest) (oC : QConst o rest) (xok : QOk a ⟨r, p, vs, ns, us, ps, n1, n2, n3, n4, rows, pushed⟩ rest bd) (yok : QOk o y rest bd)
    (hq : m' (Str.ofString "queues") = some (.ref C.lq)) (hr : m' (Str.ofString "rows") = some (.ref C.lr)) (hp : m' (Str.ofString "pushed") = some (.ref C.lp)) (hs : m' (Str.ofString "script") = some (.ref sc)) :
    TailPost h₀ L C b a o bd kp sc s .next { s with heap := h', toks := tk } :=
  ⟨rfl, h', tk, m', rfl, F, ⟨⟨r, p, vs, ns, us, ps, n1, n2, n3, n4, rows, pushed⟩, y, sh, ts, c1, c2, c3, rest, N, hkp, hoff, cC, aC, oC, xok, yok⟩, hq, hr, hp, hs⟩
theorem TailPost.push {h₀ : Heap} {L : Addr} {C : CA} {b : Bool} {a o : QA} {bd : Nat} {sc : Addr} {s : Shared} {h' : Heap} {tk : Nat} {m' : Str → Option Value} {r p D : Addr} {vs : List Value} {n1 n2 n3 n4 c1 c2 c3 : Nat} {x y : QS} {sh : Int} {ts tv : Tok} {rest kp : List (Addr × Obj)} {kv : Value} {k : Int × Int} {v : Int}
    (F : Fr h₀ L h' m') (hkp : ∀ p ∈ kp, p ∈ rest) (N : News h₀ L h' ((a.nk, listOf (x.ns ++ [Value.int v tv]).toArray n1) :: (a.rr, listOf vs.toArray n2) :: (o.nk, listOf y.ns.toArray y.n1) :: (o.rr, listOf y.vs.toArray y.n2) ::
      (C.lr, listOf (pair2 b (Value.ref r) (.ref y.r)).toArray c1) :: (C.lp, listOf (pair2 b (Value.ref p) (.ref y.p)).toArray c2) :: (C.ls, listOf [Value.int sh ts].toArray c3) ::
      (p, listOf (x.ps ++ [Value.int v tv]).toArray n4) :: (r, listOf (x.us ++ [Value.ref D]).toArray n3) :: (D, tupO [kv, .int v tv]) :: rest))
    (hp1 : p ∉ tgt C a o) (hr1 : r ∉ tgt C a o) (hD1 : D ∉ tgt C a o) (hoff : ∀ p ∈ rest, p.1 ∉ tgt C a o) (cC : CConst L C b a o rest) (aC : QConst a rest) (oC : QConst o rest)
    (hvs : RowsV (decide (a.kd = 3)) rest vs (isort (x.rows ++ [(k, v)]))) (hus : RowsV (decide (a.kd = 3)) rest x.us x.rows) (hns : IntsAre x.ns x.pushed) (hps : IntsAre x.ps x.pushed) (hkv : KeyV (decide (a.kd = 3)) rest kv k)
    (hrb : x.rows.length ≤ bd) (hpb : x.pushed.length ≤ bd) (yok : QOk o y rest bd)
    (hq : m' (Str.ofString "queues") = some (.ref C.lq)) (hr : m' (Str.ofString "rows") = some (.ref C.lr)) (hp : m' (Str.ofString "pushed") = some (.ref C.lp)) (hs : m' (Str.ofString "script") = some (.ref sc)) :
    TailPost h₀ L C b a o (bd + 1) kp sc s .next { s with heap := h', toks := tk } := by
  have hsb : ∀ q ∈ rest, q ∈ (p, listOf (x.ps ++ [Value.int v tv]).toArray n4) :: (r, listOf (x.us ++ [Value.ref D]).toArray n3) :: (D, tupO [kv, .int v tv]) :: rest := fun p hp => List.Mem.tail _ (List.Mem.tail _ (List.Mem.tail _ hp))
  refine TailPost.intro (rows := x.rows ++ [(k, v)]) (pushed := x.pushed ++ [v]) (us := x.us ++ [Value.ref D]) (ps := x.ps ++ [Value.int v tv]) (n3 := n3) (n4 := n4) F (fun p hp => hsb _ (hkp p hp)) N (List.forall_mem_cons.mpr ⟨hp1, List.forall_mem_cons.mpr ⟨hr1, List.forall_mem_cons.mpr ⟨hD1, hoff⟩⟩⟩) (cC.mono hsb) (aC.mono hsb) (oC.mono hsb) ?_ (yok.mono hsb (Nat.le_succ _)) hq hr hp hs
  exact ⟨hvs.mono hsb, (hus.mono hsb).append (show RowsV _ _ [Value.ref D] [(k, v)] from ⟨⟨D, kv, tv, rfl, List.Mem.tail _ (List.Mem.tail _ (List.Mem.head _)), hkv.mono hsb⟩, trivial⟩), hns.append (.cons _ _ .nil), hps.append (.cons _ _ .nil), List.Mem.tail _ (List.Mem.head _), List.Mem.head _, by simp; omega, by simp; omega⟩
theorem reorgT {a b c d e f g t : Addr × Obj} {l : List (Addr × Obj)} : ∀ p ∈ b :: t :: a :: c :: d :: e :: f :: g :: l, p ∈ t :: a :: b :: c :: d :: e :: f :: g :: l := fun p hp => by
  simp only [List.mem_cons] at hp ⊢
  rcases hp with h | h | h | h | h | h | h | h | h <;> simp [h]
theorem reorgT2 {a b c d e f g t l2 : Addr × Obj} {l : List (Addr × Obj)} : ∀ p ∈ a :: b :: c :: d :: e :: f :: g :: l2 :: l, p ∈ l2 :: b :: t :: a :: c :: d :: e :: f :: g :: l := fun p hp => by
  simp only [List.mem_cons] at hp ⊢
  rcases hp with h | h | h | h | h | h | h | h | h <;> simp [h]
theorem tail7 {a b c d e f g : Addr × Obj} {l : List (Addr × Obj)} : ∀ p ∈ l, p ∈ a :: b :: c :: d :: e :: f :: g :: l := fun p hp => List.Mem.tail _ (List.Mem.tail _ (List.Mem.tail _ (List.Mem.tail _ (List.Mem.tail _ (List.Mem.tail _ (List.Mem.tail _ hp))))))
theorem notin_tgt {C : CA} {a o : QA} {D : Addr} (h1 : @LT.lt Nat _ a.nk D) (h2 : @LT.lt Nat _ a.rr D) (h3 : @LT.lt Nat _ o.nk D) (h4 : @LT.lt Nat _ o.rr D) (h5 : @LT.lt Nat _ C.lr D) (h6 : @LT.lt Nat _ C.lp D) (h7 : @LT.lt Nat _ C.ls D) : D ∉ tgt C a o := by
  simp only [tgt, List.mem_cons, List.not_mem_nil, or_false, not_or]
  exact ⟨Nat.ne_of_gt h1, Nat.ne_of_gt h2, Nat.ne_of_gt h3, Nat.ne_of_gt h4, Nat.ne_of_gt h5, Nat.ne_of_gt h6, Nat.ne_of_gt h7⟩
theorem boolAbs1 {rs : List Row} {us : List Value} (hiff : isort rs = [] ↔ us = []) (h1 : isort rs ≠ []) (hc : (true != decide (us ≠ [])) = true) : False := by
  have : us ≠ [] := fun e => h1 (hiff.mpr e)
  simp [this] at hc
theorem boolAbs2 {rs : List Row} {us : List Value} (hiff : isort rs = [] ↔ us = []) (h1 : ¬ isort rs ≠ []) (hc : (false != decide (us ≠ [])) = true) : False := by
  have : us = [] := hiff.mp (Classical.not_not.mp h1)
  simp [this] at hc
theorem reorgP {a b c d e f g x1 x2 x3 x4 x5 : Addr × Obj} {l : List (Addr × Obj)} : ∀ p ∈ a :: b :: c :: d :: e :: f :: g :: x1 :: x3 :: x5 :: l, p ∈ x1 :: x2 :: x3 :: x4 :: x5 :: a :: b :: c :: d :: e :: f :: g :: l := fun p hp => by
  simp only [List.mem_cons] at hp ⊢
  rcases hp with h | h | h | h | h | h | h | h | h | h | h <;> simp [h]
theorem ctrT_use {w : World} {pp : Program} {ll : List Str} {mean : ExcName → Option Value} {mg mb : Str → Option Value} {bud : Nat} {f : Value} {args : List Value} {news : List (Addr × Obj)} {Post : Value → List (Addr × Obj) → Prop}
    {dp un : Nat} {gd : Option (List Code)} {cn : Str} {cs : Scope} {a : Addr} {ccd : Value} {cl : List (Str × Addr)} {A₀ : Around} {base h₀ : Heap} {L : Addr} {m : Str → Option Value} {s : Shared} {Q E : Value → Shared → Prop}
    (C : CtrT w pp ll mean mg mb bud f args news Post) (B : Below A₀ base [] h₀) (F : Fr h₀ L s.heap m) (X : (hd.heap_39 w.params).In h₀) (N : News h₀ L s.heap news) (T : Top pp ll mean mg mb h₀) (XB : (hd.heap_39 w.params).In base) (TB : Top pp ll mean mg mb base)
    (hk : cs.kind = .function) (hd : dp + bud < recursionLimit) (hu : un + 8 * bud < cLine)
    (ret : ∀ r news' h' tk', Fr h₀ L h' m → News h₀ L h' news' → Post r news' → Q r { s with heap := h', toks := tk' }) :
    wpAny (model PySem.Challenge.rw_ah6005_01.row.prog w) (ktrTop dp un gd cn cs L a ccd cl []) (call f args) Q E s := C _ _ _ _ _ _ _ _ _ _ _ _ _ _ _ _ B F X N T XB TB hk hd hu ret

theorem tail_ok {w : World} {pp : Program} {ll : List Str} {mean : ExcName → Option Value} {mg mb : Str → Option Value} {h₀ : Heap} {L fa : Addr} {C : CA} {b : Bool} {a o : QA} {bd : Nat} {m : Str → Option Value} {s : Shared} {E : Value → Shared → Prop}
    {wv dv v nb : Int} {tw td tv tn : Tok} {sc : Addr} {kp : List (Addr × Obj)}
    (B : Below callerA h₀ [] h₀) (X : (hd.heap_39 w.params).In h₀) (T : Top pp ll mean mg mb h₀) (hnd : (tgt C a o).Nodup) (hwv : wv = ix b)
    (ha : LamOK w pp ll mean mg mb a.f a.nk C.ls a.kd a.cst) (S : StOk h₀ L C b a o bd kp s.heap) (hbd : bd < 100)
    (F : Fr h₀ L s.heap (kstB m [(Str.ofString "which", .int wv tw), (Str.ofString "deed", .int dv td), (Str.ofString "value", .int v tv), (Str.ofString "number", .int nb tn), (Str.ofString "queues", .ref C.lq), (Str.ofString "rows", .ref C.lr), (Str.ofString "pushed", .ref C.lp), (Str.ofString "script", .ref sc)])) :
    wpAny (model PySem.Challenge.rw_ah6005_01.row.prog w) (callerA.deeper (lawEnv w.params L fa)) (execs ((forBody ((lawBody w.params).drop 8)).drop 5) (lawEnv w.params L fa))
      (TailPost h₀ L C b a o (bd + 1) kp sc s) E s := by
  revert X
  k_fill
  intro X
  obtain ⟨x, y, sh, ts, c1, c2, c3, rest, N, hkp, hoff, ⟨clq, cln, clk, cck, ccn, ccs, cdk, cdn, cds⟩, ⟨aq, ad, af, acst, acstI, ak0, ak4⟩, oC, ⟨xvs, xus, xns, xps, xhr, xhp, xrb, xpb⟩, yOk⟩ := S
  dsimp only [kstB] at F
  have hbody := (rfl : ((forBody ((lawBody w.params).drop 8)).drop 5) = ((forBody ((lawBody w.params).drop 8)).drop 5))
  conv at hbody => rhs; whnf
  rw [hbody]; clear hbody
  dsimp only [lawEnv]
  have hcl := (rfl : cellsFrom (L + 1) (lawScope w.params).names [] = cellsFrom (L + 1) (lawScope w.params).names [])
  conv at hcl => rhs; whnf
  rw [hcl]; clear hcl
  have hsc := (rfl : lawScope w.params = lawScope w.params)
  conv at hsc => rhs; whnf
  rw [hsc]; clear hsc
  have hnd2 := hnd
  simp only [tgt, List.nodup_cons, List.mem_cons, List.not_mem_nil, or_false, not_or, List.nodup_nil, and_true, not_false_eq_true] at hnd2
  obtain ⟨⟨d1, d2, d3, d4, d5, d6⟩, ⟨d7, d8, d9, d10, d11⟩, ⟨d12, d13, d14, d15⟩, ⟨d16, d17, d18⟩, ⟨d19, d20⟩, d21⟩ := hnd2
  have hxl : (isort x.rows).length < 1000 := by rw [isort_length]; omega
  have hnl : x.ns.length < 1000 := by rw [xns.length]; omega
  have hul : x.us.length ≤ 500 := by rw [xus.length]; omega
  have hpl : x.ps.length ≤ 500 := by rw [xps.length]; omega
  have e0 : ∀ p ∈ rest, p.1 ≠ C.ls := fun p hp e => hoff p hp (by rw [e]; simp [tgt])
  dsimp only [lawLed] at N
  k_steps
  · -- a push
    k_dflt (refine' ctr_use (ctr_key ak0 ak4) ?k1 ?k2 ?k3 ?k4 ?k5 ?kK ?kd ?ku ?_; (case k1 => k_asm); (case k2 => k_asm); (case k3 => k_asm); (case k4 => k_asm); (case k5 => k_asm); (case kK => exact rfl); (case kd => k_room); (case ku => decide))
    rintro kv news9 h9 tk9 F9 N9 ⟨ex, rfl, hkv, hx⟩
    have N10 := kst_newsOf N9 reorg7
    obtain ⟨rest2, hrest⟩ : ∃ r, r = ex ++ rest := ⟨_, rfl⟩
    have hsub : ∀ p ∈ rest, p ∈ rest2 := by rw [hrest]; exact fun p hp => List.mem_append_right _ hp
    rw [← hrest] at N10
    have hoff2 : ∀ p ∈ rest2, p.1 ∉ tgt C a o := by
      rw [hrest]
      refine off_grow (led := []) hoff fun p hp t ht => ?_
      obtain ⟨-, hq⟩ := hx p hp
      simp only [tgt, List.mem_cons, List.not_mem_nil, or_false] at ht
      simp only [List.forall_mem_cons] at hq
      obtain ⟨q1, q2, q3, q4, q5, q6, q7, -⟩ := hq
      rcases ht with rfl | rfl | rfl | rfl | rfl | rfl | rfl <;> assumption
    replace hkv : KeyV (decide (a.kd = 3)) rest2 kv (keyOf a.kd (v + sh)) := by rw [hrest]; exact hkv.mono fun p hp => List.mem_append_left _ hp
    clear N9 hx
    replace clq := hsub _ clq; replace cln := hsub _ cln; replace clk := hsub _ clk; replace cck := hsub _ cck; replace ccn := hsub _ ccn; replace ccs := hsub _ ccs
    replace aq := hsub _ aq; replace ad := hsub _ ad; replace af := hsub _ af; replace acst := fun p hp => hsub _ (acst p hp); replace oC := oC.mono hsub; replace yOk := yOk.mono hsub (Nat.le_refl _)
    replace xvs := xvs.mono hsub; replace xus := xus.mono hsub; replace xhr := hsub _ xhr; replace xhp := hsub _ xhp
    k_steps
    have hoffA : ∀ p ∈ rest2, p.1 ≠ a.rr ∧ p.1 ≠ a.nk := fun p hp => ⟨fun e => hoff2 p hp (by rw [e]; simp [tgt]), fun e => hoff2 p hp (by rw [e]; simp [tgt])⟩
    k_dflt (refine' ctr_use (ctr_push (tup := decide (a.kd = 3)) (k := keyOf a.kd (v + sh)) ?p1 ?p2 ?p3 ?p4 ?p5 ?p6 hxl ?p8 ?p9) ?k1 ?k2 ?k3 ?k4 ?k5 ?kK ?kd ?ku ?_; (case k1 => k_asm); (case k2 => k_asm); (case k3 => k_asm); (case k4 => k_asm); (case k5 => k_asm); (case kK => exact rfl); (case kd => k_room); (case ku => decide); (case p1 => k_mem); (case p2 => k_mem); (case p3 => k_mem))
    case p4 => exact List.forall_mem_cons.mpr ⟨⟨Ne.symm d7, Ne.symm d2⟩, List.forall_mem_cons.mpr ⟨⟨Ne.symm d8, Ne.symm d3⟩, List.forall_mem_cons.mpr ⟨⟨Ne.symm d9, Ne.symm d4⟩, List.forall_mem_cons.mpr ⟨⟨Ne.symm d10, Ne.symm d5⟩, List.forall_mem_cons.mpr ⟨⟨Ne.symm d11, Ne.symm d6⟩, hoffA⟩⟩⟩⟩⟩
    case p5 => exact Ne.symm d1
    case p6 => exact xvs.mono fun p hp => List.Mem.tail _ (List.Mem.tail _ (List.Mem.tail _ (List.Mem.tail _ (List.Mem.tail _ hp))))
    case p8 => exact fun i j => sorted_mono (isort_sorted x.rows) i j
    case p9 =>
      refine ha v tv sh ts c3 x.n1 x.ns _ hnl (fun p hp => List.Mem.tail _ (List.Mem.tail _ (List.Mem.tail _ (List.Mem.tail _ (List.Mem.tail _ (List.Mem.tail _ (acst p hp))))))) (List.Mem.tail _ (List.Mem.tail _ (List.Mem.tail _ (List.Mem.tail _ (List.Mem.tail _ (List.Mem.head _)))))) ?_
      exact List.forall_mem_cons.mpr ⟨Ne.symm d1, List.forall_mem_cons.mpr ⟨Ne.symm d2, List.forall_mem_cons.mpr ⟨Ne.symm d3, List.forall_mem_cons.mpr ⟨Ne.symm d4, List.forall_mem_cons.mpr ⟨Ne.symm d5, List.forall_mem_cons.mpr ⟨Ne.symm d6, fun p hp => (hoffA p hp).2⟩⟩⟩⟩⟩⟩
    rintro r9 news9 h9b tk9b F9 N9 ⟨rfl, pos, vs', n', n1', ex2, hp1, hp2, hp3, hvs', hx2, hsub2⟩
    rw [inner_pos (x := (keyOf a.kd (v + sh), v)) hp1 hp2 hp3, ← foldl_snoc] at hvs'
    have N11 := kst_newsOf N9 fun p hp => hsub2 p (reorg7b p hp)
    replace hvs' := (hvs'.mono reorg5b).strip.strip.strip.strip.strip
    obtain ⟨rest3, hrest3⟩ : ∃ r, r = ex2 ++ rest2 := ⟨_, rfl⟩
    have hsub3 : ∀ p ∈ rest2, p ∈ rest3 := by rw [hrest3]; exact fun p hp => List.mem_append_right _ hp
    have hoff3 : ∀ p ∈ rest3, p.1 ∉ tgt C a o := by
      rw [hrest3]
      refine off_grow (led := []) hoff2 fun p hp t ht => ?_
      obtain ⟨-, q1, q2, hq⟩ := hx2 p hp
      simp only [tgt, List.mem_cons, List.not_mem_nil, or_false] at ht
      simp only [List.forall_mem_cons] at hq
      obtain ⟨q3, q4, q5, q6, q7, -⟩ := hq
      rcases ht with rfl | rfl | rfl | rfl | rfl | rfl | rfl <;> assumption
    rw [← hrest3] at N11 hvs'
    clear N9 hx2 hsub2 hp1 hp2 hp3 xvs
    replace clq := hsub3 _ clq; replace cln := hsub3 _ cln; replace clk := hsub3 _ clk; replace cck := hsub3 _ cck; replace ccn := hsub3 _ ccn; replace ccs := hsub3 _ ccs
    replace aq := hsub3 _ aq; replace ad := hsub3 _ ad; replace af := hsub3 _ af; replace acst := fun p hp => hsub3 _ (acst p hp); replace oC := oC.mono hsub3; replace yOk := yOk.mono hsub3 (Nat.le_refl _)
    replace xus := xus.mono hsub3; replace xhr := hsub3 _ xhr; replace xhp := hsub3 _ xhp; replace hkv := hkv.mono hsub3
    have e1 : ∀ p ∈ rest3, p.1 ≠ C.lr := fun p hp e => hoff3 p hp (by rw [e]; simp [tgt])
    have e2 : ∀ p ∈ rest3, p.1 ≠ C.lp := fun p hp e => hoff3 p hp (by rw [e]; simp [tgt])
    (try k_sweep)
    k_steps
    rename Fr _ _ _ _ => F9
    rename News _ _ _ _ => N9
    have N12 := kst_newsOf N9 reorgP
    refine TailPost.push F9 (fun p hp => hsub3 _ (hsub _ (hkp p hp))) N12 ?_ ?_ ?_ hoff3 ⟨clq, cln, clk, cck, ccn, ccs, cdk, cdn, cds⟩ ⟨aq, ad, af, acst, acstI, ak0, ak4⟩ oC hvs' xus xns xps hkv xrb xpb yOk rfl rfl rfl rfl
    all_goals exact notin_tgt (by omega) (by omega) (by omega) (by omega) (by omega) (by omega) (by omega)
  · -- an empty queue refuses
    have hu0 : x.us = [] := by assumption
    have hr0 : x.rows = [] := List.eq_nil_of_length_eq_zero (by rw [← xus.length, hu0]; rfl)
    have hv0 : x.vs = [] := List.eq_nil_of_length_eq_zero (by rw [xvs.length, hr0]; rfl)
    rename News _ _ _ _ => N9
    rw [hv0] at N9 xvs
    k_dflt (refine' ctrT_use (ctr_refused ?p1 ?p2 ?p3) ?k1 ?k2 ?k3 ?k4 ?k5 ?k6 ?k7 ?kK ?kd ?ku ?_; (case k1 => exact B); (case k2 => k_asm); (case k3 => k_asm); (case k4 => exact N9); (case k5 => exact T); (case k6 => exact X); (case k7 => exact T); (case kK => exact rfl); (case kd => k_room); (case ku => decide); (case p1 => k_mem); (case p2 => k_mem); (case p3 => k_mem))
    rintro r9 news9 h9 tk9 F9 N9 ⟨rfl, rfl⟩
    k_steps
    rename Fr _ _ _ _ => F9
    rename News _ _ _ _ => N9
    refine TailPost.intro (r := x.r) (p := x.p) F9 hkp (fun p hp => N9 p (List.Mem.tail _ hp)) hoff ⟨clq, cln, clk, cck, ccn, ccs, cdk, cdn, cds⟩ ⟨aq, ad, af, acst, acstI, ak0, ak4⟩ oC ⟨xvs, xus, xns, xps, xhr, xhp, Nat.le_trans xrb (Nat.le_succ _), Nat.le_trans xpb (Nat.le_succ _)⟩ (yOk.mono (fun _ h => h) (Nat.le_succ _)) rfl rfl rfl rfl
  · -- the first of the least is taken
    have hu0 : x.us ≠ [] := by assumption
    have hr0 : x.rows ≠ [] := fun e => hu0 (List.eq_nil_of_length_eq_zero (by rw [xus.length, e]; rfl))
    have hsd := isort_due x.rows hr0
    obtain ⟨v0, vs0, hv0⟩ : ∃ v0 vs0, x.vs = v0 :: vs0 := by
      cases hv : x.vs with
      | nil => have := xvs.length; rw [hv, hsd] at this; simp at this
      | cons v0 vs0 => exact ⟨v0, vs0, rfl⟩
    have hvl : (v0 :: vs0).length < 1000 := by rw [← hv0, xvs.length]; exact hxl
    rename News _ _ _ _ => N9
    rename _ < _ ∧ _ => l1
    rw [hv0] at N9 xvs
    rw [hsd] at xvs
    have N10 := kst_newsOf N9 reorgT
    have e3 : ∀ p ∈ rest, p.1 ≠ a.rr := fun p hp e => hoff p hp (by rw [e]; simp [tgt])
    k_dflt (refine' ctr_use (ctr_taken (r := x.rows.getD (due x.rows) default) (rs := x.rows) ?p1 ?p2 ?p3 (xvs.mono tail7) hvl ?p4 (xus.mono tail7) ?p5 hr0 rfl) ?k1 ?k2 ?k3 ?k4 ?k5 ?kK ?kd ?ku ?_; (case k1 => exact B); (case k2 => k_asm); (case k3 => k_asm); (case k4 => exact N10); (case k5 => exact T); (case kK => exact rfl); (case kd => k_room); (case ku => decide); (case p1 => k_mem); (case p2 => k_mem); (case p4 => k_mem); (case p5 => omega))
    case p3 =>
      exact List.forall_mem_cons.mpr ⟨Nat.ne_of_gt l1.2.1, List.forall_mem_cons.mpr ⟨d1, List.forall_mem_cons.mpr ⟨Ne.symm d7, List.forall_mem_cons.mpr ⟨Ne.symm d8, List.forall_mem_cons.mpr ⟨Ne.symm d9, List.forall_mem_cons.mpr ⟨Ne.symm d10, List.forall_mem_cons.mpr ⟨Ne.symm d11, e3⟩⟩⟩⟩⟩⟩⟩
    rintro r9 news9 h9 tk9 F9 N11 ⟨l2, n1, n2, rfl, hsub9, hne2, hfr⟩
    have N12 := kst_newsOf N11 hsub9
    clear N9 N10 N11 hsub9
    simp only [List.forall_mem_cons] at hfr
    obtain ⟨f1, f2, f3, f4, f5, f6, f7, f8⟩ := hfr
    have e1 : ∀ p ∈ rest, p.1 ≠ C.lr := fun p hp e => hoff p hp (by rw [e]; simp [tgt])
    have g1 : l2 ≠ C.lr := Nat.ne_of_gt f5
    (try k_sweep)
    k_steps
    rename Fr _ _ _ _ => F9
    rename News _ _ _ _ => N9
    have N13 := kst_newsOf N9 reorgT2
    have hsb : ∀ p ∈ rest, p ∈ (l2, listOf (x.us.take (due x.rows) ++ x.us.drop (due x.rows + 1)).toArray n1) :: rest := fun p hp => List.Mem.tail _ hp
    have hdl := due_lt hr0
    refine TailPost.intro (r := l2) (p := x.p) (rows := x.rows.take (due x.rows) ++ x.rows.drop (due x.rows + 1)) (us := x.us.take (due x.rows) ++ x.us.drop (due x.rows + 1)) F9 (fun p hp => hsb _ (hkp p hp)) N13 (List.forall_mem_cons.mpr ⟨notin_tgt f2 (by omega) f3 f4 f5 f6 f7, hoff⟩)
      (CConst.mono ⟨clq, cln, clk, cck, ccn, ccs, cdk, cdn, cds⟩ hsb) (QConst.mono ⟨aq, ad, af, acst, acstI, ak0, ak4⟩ hsb) (oC.mono hsb) ⟨xvs.2.mono hsb, ((xus.take _).append (xus.drop _)).mono hsb, xns, xps, List.Mem.head _, hsb _ xhp, ?_, Nat.le_trans xpb (Nat.le_succ _)⟩ (yOk.mono hsb (Nat.le_succ _)) rfl rfl rfl rfl
    show (x.rows.take (due x.rows) ++ x.rows.drop (due x.rows + 1)).length ≤ bd + 1
    rw [List.length_append, List.length_take, List.length_drop]
    omega
  all_goals
    have hiff : isort x.rows = [] ↔ x.us = [] := by
      rw [← List.length_eq_zero_iff, ← List.length_eq_zero_iff, isort_length, xus.length]
    first
    | exact (boolAbs1 hiff (by assumption) (by assumption)).elim
    | exact (boolAbs2 hiff (by assumption) (by assumption)).elim
    | (rename Fr _ _ _ _ => F9
       rename News _ _ _ _ => N9
       refine TailPost.intro (r := x.r) (p := x.p) F9 hkp (fun p hp => N9 p (List.Mem.tail _ hp)) hoff ⟨clq, cln, clk, cck, ccn, ccs, cdk, cdn, cds⟩ ⟨aq, ad, af, acst, acstI, ak0, ak4⟩ oC ⟨xvs, xus, xns, xps, xhr, xhp, Nat.le_trans xrb (Nat.le_succ _), Nat.le_trans xpb (Nat.le_succ _)⟩ (yOk.mono (fun _ h => h) (Nat.le_succ _)) rfl rfl rfl rfl)
end Mine
theorem Mine.freshE3 : (0 : Nat) = 0 := by
  w_top off
  first | walk1 | rfl
namespace Mine

theorem tgt_swap {C : CA} {a o : QA} {x : Addr} (h : x ∉ tgt C a o) : x ∉ tgt C o a := by
  simp only [tgt, List.mem_cons, List.not_mem_nil, or_false, not_or] at h ⊢
  obtain ⟨h1, h2, h3, h4, h5⟩ := h
  exact ⟨h3, h4, h1, h2, h5⟩
theorem CConst.swap {L : Addr} {C : CA} {b : Bool} {a o : QA} {rest : List (Addr × Obj)} (h : CConst L C b a o rest) : CConst L C (!b) o a rest :=
  ⟨by rw [pair2_swap]; exact h.lq, by rw [pair2_swap]; exact h.ln, by rw [pair2_swap]; exact h.lk, h.ck, h.cn, h.cs, h.dk, h.dn, h.ds⟩
theorem lawLed_swap {C : CA} {b : Bool} {a o : QA} {x y : QS} {sh : Int} {ts : Tok} {c1 c2 c3 : Nat} {rest : List (Addr × Obj)} : ∀ p ∈ lawLed C (!b) o a y x sh ts c1 c2 c3 rest, p ∈ lawLed C b a o x y sh ts c1 c2 c3 rest := fun p hp => by
  simp only [lawLed, pair2_swap, List.mem_cons] at hp ⊢
  rcases hp with h | h | h | h | h | h | h | h <;> simp [h]
theorem StOk.swap {h₀ : Heap} {L : Addr} {C : CA} {b : Bool} {a o : QA} {bd : Nat} {kp : List (Addr × Obj)} {h : Heap} (S : StOk h₀ L C b a o bd kp h) : StOk h₀ L C (!b) o a bd kp h := by
  obtain ⟨x, y, sh, ts, c1, c2, c3, rest, N, hkp, hoff, cC, aC, oC, xOk, yOk⟩ := S
  exact ⟨y, x, sh, ts, c1, c2, c3, rest, kst_newsOf N lawLed_swap, hkp, fun p hp => tgt_swap (hoff p hp), cC.swap, oC, aC, yOk, xOk⟩
theorem TailPost.swap {h₀ : Heap} {L : Addr} {C : CA} {b : Bool} {a o : QA} {bd : Nat} {kp : List (Addr × Obj)} {sc : Addr} {s : Shared} {f : Flow} {s' : Shared} (h : TailPost h₀ L C b a o bd kp sc s f s') : TailPost h₀ L C (!b) o a bd kp sc s f s' := by
  obtain ⟨e, h', tk, m', e', F, S, r⟩ := h
  exact ⟨e, h', tk, m', e', F, S.swap, r⟩

def StL (L : Addr) (C : CA) (b : Bool) (a o : QA) (bd : Nat) (led : List (Addr × Obj)) : Prop :=
  ∃ x y sh ts c1 c2 c3 rest, led = lawLed C b a o x y sh ts c1 c2 c3 rest ∧ (∀ p ∈ rest, p.1 ∉ tgt C a o) ∧ CConst L C b a o rest ∧ QConst a rest ∧ QConst o rest ∧ QOk a x rest bd ∧ QOk o y rest bd
theorem StL.toSt {h₀ : Heap} {L : Addr} {C : CA} {b : Bool} {a o : QA} {bd : Nat} {h : Heap} {I : Addr} {it : Obj} {led : List (Addr × Obj)} (S : StL L C b a o bd led) (N : News h₀ L h ((I, it) :: led)) (hI : ∀ p ∈ led, p.1 ≠ I) : StOk h₀ L C b a o bd [(I, it)] h := by
  obtain ⟨x, y, sh, ts, c1, c2, c3, rest, rfl, hoff, cC, aC, oC, xOk, yOk⟩ := S
  have hsb : ∀ p ∈ rest, p ∈ (I, it) :: rest := fun p hp => List.Mem.tail _ hp
  refine ⟨x, y, sh, ts, c1, c2, c3, (I, it) :: rest, kst_newsOf N (fun p hp => ?_), (fun p hp => by rw [List.mem_singleton.mp hp]; exact List.Mem.head _), List.forall_mem_cons.mpr ⟨?_, hoff⟩, cC.mono hsb, aC.mono hsb, oC.mono hsb, xOk.mono hsb (Nat.le_refl _), yOk.mono hsb (Nat.le_refl _)⟩
  · simp only [lawLed, List.mem_cons] at hp ⊢
    rcases hp with h | h | h | h | h | h | h | h | h <;> simp [h]
  · simp only [lawLed, List.forall_mem_cons] at hI
    obtain ⟨h1, h2, h3, h4, h5, h6, h7, -⟩ := hI
    simp only [tgt, List.mem_cons, List.not_mem_nil, or_false, not_or]
    exact ⟨h1.symm, h2.symm, h3.symm, h4.symm, h5.symm, h6.symm, h7.symm⟩
theorem KeyV.monoT {tup : Bool} {L9 L8 : List (Addr × Obj)} (hs : ∀ p vs, (p, tupO vs) ∈ L9 → (p, tupO vs) ∈ L8) {v : Value} {k : Int × Int} (h : KeyV tup L9 v k) : KeyV tup L8 v k := by
  unfold KeyV at h ⊢
  cases tup with
  | true => obtain ⟨p, t1, t2, e, hm⟩ := h; exact ⟨p, t1, t2, e, hs _ _ hm⟩
  | false => exact h
theorem RowsV.monoT {tup : Bool} {L9 L8 : List (Addr × Obj)} (hs : ∀ p vs, (p, tupO vs) ∈ L9 → (p, tupO vs) ∈ L8) : ∀ {vs : List Value} {rs : List Row}, RowsV tup L9 vs rs → RowsV tup L8 vs rs
  | [], [], _ => trivial
  | _ :: _, _ :: _, ⟨⟨p, kv, t, e, hm, hk⟩, r⟩ => ⟨⟨p, kv, t, e, hs _ _ hm, hk.monoT hs⟩, RowsV.monoT hs r⟩
theorem notIt_data {o : Obj} (h : ∀ vs, o.data ≠ .fields vs) : ∀ i j, o ≠ itR i j := fun i j e => h _ (by rw [e]; rfl)
theorem StOk.toL {h₀ : Heap} {L : Addr} {C : CA} {b : Bool} {a o : QA} {bd : Nat} {h : Heap} {I : Addr} {i j : Int} (S : StOk h₀ L C b a o bd [(I, itR i j)] h) :
    ∃ led, News h₀ L h ((I, itR i j) :: led) ∧ (∀ p ∈ led, p.1 ≠ I) ∧ StL L C b a o bd led := by
  obtain ⟨x, y, sh, ts, c1, c2, c3, rest, N, hkp, hoff, cC, aC, oC, xOk, yOk⟩ := S
  have hIm : (I, itR i j) ∈ rest := hkp _ (List.Mem.head _)
  have hIt : I ∉ tgt C a o := hoff _ hIm
  have hu : ∀ p ∈ rest, p.1 = I → p.2 = itR i j := fun p hp e => by
    have h1 := (N p (tail7 p hp)).1
    have h2 := (N _ (tail7 _ hIm)).1
    rw [e] at h1
    exact Option.some.inj (h1.symm.trans h2)
  have hk : ∀ p ∈ rest, (∀ i j, p.2 ≠ itR i j) → p ∈ rest.filter (fun p => decide (p.1 ≠ I)) := fun p hp hn => List.mem_filter.mpr ⟨hp, decide_eq_true fun e => hn _ _ (hu p hp e)⟩
  have hf : ∀ p ∈ rest.filter (fun p => decide (p.1 ≠ I)), p ∈ rest := fun p hp => (List.mem_filter.mp hp).1
  have hT : ∀ p vs, (p, tupO vs) ∈ rest → (p, tupO vs) ∈ rest.filter (fun p => decide (p.1 ≠ I)) := fun p vs hp => hk _ hp (notIt_data fun _ q => by cases q)
  have qc : ∀ {a : QA}, QConst a rest → QConst a (rest.filter (fun p => decide (p.1 ≠ I))) := fun q =>
    ⟨hk _ q.q (notIt_data fun _ q => by cases q), hk _ q.d (notIt_data fun _ q => by cases q), hk _ q.f (notIt_data fun _ q => by cases q), fun p hp => hk _ (q.cst p hp) (q.cstI p hp), q.cstI, q.kd0, q.kd4⟩
  have qo : ∀ {a : QA} {x : QS}, QOk a x rest bd → QOk a x (rest.filter (fun p => decide (p.1 ≠ I))) bd := fun q =>
    ⟨q.vs.monoT hT, q.us.monoT hT, q.ns, q.ps, hk _ q.hr (notIt_data fun _ q => by cases q), hk _ q.hp (notIt_data fun _ q => by cases q), q.rb, q.pb⟩
  refine ⟨lawLed C b a o x y sh ts c1 c2 c3 (rest.filter (fun p => decide (p.1 ≠ I))), fun p hp => ?_, fun p hp => ?_, x, y, sh, ts, c1, c2, c3, _, rfl, fun p hp => hoff p (hf p hp), ?_, qc aC, qc oC, qo xOk, qo yOk⟩
  · refine N p ?_
    simp only [lawLed, List.mem_cons] at hp ⊢
    rcases hp with h | h | h | h | h | h | h | h | h
    · exact .inr (.inr (.inr (.inr (.inr (.inr (.inr (by rw [h]; exact hIm)))))))
    all_goals first | (simp [h]; done) | exact .inr (.inr (.inr (.inr (.inr (.inr (.inr (hf _ h)))))))
  · simp only [tgt, List.mem_cons, List.not_mem_nil, or_false, not_or] at hIt
    obtain ⟨h1, h2, h3, h4, h5, h6, h7⟩ := hIt
    simp only [lawLed, List.mem_cons] at hp
    rcases hp with h | h | h | h | h | h | h | h
    · rw [h]; exact Ne.symm h1
    · rw [h]; exact Ne.symm h2
    · rw [h]; exact Ne.symm h3
    · rw [h]; exact Ne.symm h4
    · rw [h]; exact Ne.symm h5
    · rw [h]; exact Ne.symm h6
    · rw [h]; exact Ne.symm h7
    · exact of_decide_eq_true (List.mem_filter.mp h).2
  · exact ⟨hk _ cC.lq (notIt_data fun _ q => by cases q), hk _ cC.ln (notIt_data fun _ q => by cases q), hk _ cC.lk (notIt_data fun _ q => by cases q), hk _ cC.ck (notIt_data fun _ q => by rw [cC.dk] at q; cases q), hk _ cC.cn (notIt_data fun _ q => by rw [cC.dn] at q; cases q), hk _ cC.cs (notIt_data fun _ q => by rw [cC.ds] at q; cases q), cC.dk, cC.dn, cC.ds⟩
end Mine
theorem Mine.freshE4 : (0 : Nat) = 0 := by
  w_top off
  first | walk1 | rfl
namespace Mine


section
variable {M : Model} {A : Around} {E : Value → Shared → Prop} {s : Shared} {env : Env}
def IntEnd (P : Int → Prop) (s : Shared) (v : Value) (s' : Shared) : Prop := ∃ i t tk, P i ∧ v = .int i t ∧ s' = { s with toks := tk }
theorem IfExp_int (P : Int → Prop) {test body orelse : PySem.Expr} {pos : Pos} {Q : Value → Shared → Prop}
    (h : wpAny M A (isTrue test env (eval test env)) (fun c s₂ => if c then wpAny M A (eval body env) (IntEnd P s) E s₂ else wpAny M A (eval orelse env) (IntEnd P s) E s₂) E s)
    (k : ∀ i t tk, P i → Q (.int i t) { s with toks := tk }) :
    wpAny M A (eval (.IfExp test body orelse pos) env) Q E s :=
  wpAny_mono (IfExp_ h) (fun v s' h' => by obtain ⟨i, t, tk, hp, rfl, rfl⟩ := h'; exact k i t tk hp) fun _ _ x => x
end
theorem base_list {h₀ h : Heap} {L : Addr} {m : Str → Option Value} {l : Addr} {xs : Array Value} (F : Fr h₀ L h m) (hl : h₀.IsList l xs) : h.IsList l xs := by
  obtain ⟨o, h1, h2⟩ := hl
  exact ⟨o, F.keep _ _ h1, h2⟩
section
variable {prog : Program} {w : World} {A : Around} {E : Value → Shared → Prop} {s : Shared} {h₀ : Heap} {L l : Addr} {m : Str → Option Value} {vs : List Value} {ns : List Int} {k : Int} {u : Tok} {value slice : PySem.Expr} {Q : Value → Shared → Prop}
theorem base_len (F : Fr h₀ L s.heap m) (hl : h₀.IsList l vs.toArray) (hz : vs.length ≤ 63) (h : Q (.int (vs.length : Int) (s.toks + 1)) { s with toks := s.toks + 1 + 1 }) : wpAny (model prog w) A (call (.builtin "len") [.ref l]) Q E s :=
  len_list (base_list F hl) (by rw [List.size_toArray]; omega) (by rw [List.size_toArray]; exact h)
theorem base_item (F : Fr h₀ L s.heap m) (hl : h₀.IsList l vs.toArray) (hi : IntsAre vs ns) (h0 : 0 ≤ k) (h1 : k < (vs.length : Int)) (hz : vs.length ≤ 63) (h : ∀ t, Q (.int (ns.getD k.toNat 0) t) s)
    (hs : subscripted slice false (.ref l) (.int k u) = operate [.ref l, .int k u] (getItem (.ref l) (.int k u)) := by with_unfolding_all rfl) : wpAny (model prog w) A (subscriptTail value slice (.ref l) (.int k u)) Q E s :=
  item_anyK (base_list F hl) hi h0 (by rw [← hi.length]; exact h1) (by omega) h hs
end
theorem ix_01 {n : Int} (h0 : 0 ≤ n) (h2 : n < 2) : n = 0 ∨ n = 1 := by omega
local macro_rules | `(tactic| k_mem) => `(tactic| assumption)
local macro_rules | `(tactic| k_units) => `(tactic| ktr_units)
local macro_rules | `(tactic| walk_at "subscriptTail") => `(tactic| (k_here; (with_reducible show wpAny _ _ (subscriptTail _ _ (Value.ref _) (Value.int _ _)) _ _ _); (with_unfolding_all refine' pair_item ?N ?m ?k ?_ ?s; (case N => k_asm); (case m => k_mem); (case k => assumption); (case s => with_unfolding_all rfl); k_whole)))
local macro_rules | `(tactic| walk_at "subscriptTail") => `(tactic| (k_here; (with_reducible show wpAny _ _ (subscriptTail _ _ (Value.ref _) (Value.int 0 _)) _ _ _); (with_unfolding_all refine' one_item ?N ?m ?_ ?s; (case N => k_asm); (case m => k_mem); (case s => with_unfolding_all rfl); k_whole)))
local macro_rules | `(tactic| walk_at "compareOp Eq ref ref") => `(tactic| (k_here; (with_reducible show wpAny _ _ (compareOp CmpOp.Eq (Value.ref _) (Value.ref _)) _ _ _); k_dflt (refine' eq_nil ?N ?l ?e ?u ?_; (case N => k_asm); (case l => k_mem); (case e => k_mem); (case u => first | ke_room | ktr_units); k_whole)))
local macro_rules | `(tactic| walk_at "compareOp NotEq ref ref") => `(tactic| (k_here; (with_reducible show wpAny _ _ (compareOp CmpOp.NotEq (Value.ref _) (Value.ref _)) _ _ _); k_dflt (refine' ne_nil ?N ?l ?e ?u ?_; (case N => k_asm); (case l => k_mem); (case e => k_mem); (case u => first | ke_room | ktr_units); k_whole)))
local macro_rules | `(tactic| k_ne) => `(tactic| first | assumption | exact Ne.symm (by assumption) | (refine neN ?_; (try dsimp only); omega))
local macro_rules | `(tactic| k_all) => `(tactic| first | assumption | exact List.forall_mem_nil _ | (refine' List.forall_mem_cons.mpr ⟨?a, ?b⟩; (case a => k_ne); (case b => k_all)))
local macro_rules | `(tactic| walk_at "setItem ref int") => `(tactic| (k_here; k_dflt (first | (refine' pair_setU ?F ?N ?k ?U ?_; (case F => k_asm); (case N => k_asm); (case k => assumption); (case U => k_upd)) | (refine' one_setU ?F ?N ?U ?_; (case F => k_asm); (case N => k_asm); (case U => k_upd))); intro h' F' N'; (try k_sweep)))
local macro_rules | `(tactic| walk_at "binaryOp Add ref ref") => `(tactic| (k_here; (with_reducible show wpAny _ _ (binaryOp _ (Value.ref _) (Value.ref _)) _ _ _); k_dflt (refine' led_add ?F ?N ?a ?b ?z ?_; (case F => k_asm); (case N => k_asm); (case a => k_mem); (case b => k_mem); (case z => ((simp only [List.length_cons, List.length_nil]); omega))); intro D' h' F' N' l1; (try k_lt l1); (try k_sweep)))
local macro_rules | `(tactic| walk_at "call ref") => `(tactic| (k_here; (try dsimp only [List.nil_append, List.cons_append]); (with_reducible show wpAny _ _ (call (Value.ref 35) [Value.ref _]) _ _ _); k_dflt (refine' ctr_use (ctr_bool ?p1 ?p2 ?p3 ?p4 ?p5) ?k1 ?k2 ?k3 ?k4 ?k5 ?kK ?kd ?ku ?_; (case k1 => k_asm); (case k2 => k_asm); (case k3 => k_asm); (case k4 => k_asm); (case k5 => k_asm); (case p1 => k_mem); (case p2 => k_mem); (case p3 => k_mem); (case p4 => assumption); (case p5 => assumption); (case kK => exact rfl); (case kd => k_room); (case ku => decide)); intro r9 news9 h' tk' F' N' hP; obtain ⟨e9, e8⟩ := hP; subst e9; subst e8; (try k_sweep)))
local macro_rules | `(tactic| walk_at "eval IfExp") => `(tactic| (refine IfExp_int (fun _ => True) ?_ ?_; rotate_left; (intro i' t' tk' hp'; clear hp'); rotate_right))
local macro_rules | `(tactic| walk_at "IntEnd") => `(tactic| exact ⟨_, _, _, True.intro, rfl, rfl⟩)
local macro_rules | `(tactic| walk_at "call builtin:len") => `(tactic| (k_here; (with_reducible show wpAny _ _ (call (Value.builtin "len") [Value.ref _]) _ _ _); k_dflt (refine' base_len ?k1 ?k2 ?k3 ?_; (case k1 => k_asm); (case k2 => assumption); (case k3 => assumption); k_whole)))
local macro_rules | `(tactic| walk_at "subscriptTail") => `(tactic| (k_here; (with_reducible show wpAny _ _ (subscriptTail _ _ (Value.ref _) (Value.int _ _)) _ _ _); (with_unfolding_all refine' base_item ?k1 ?k2 ?k3 ?k4 ?k5 ?k6 ?_ ?k7; (case k1 => k_asm); (case k2 => assumption); (case k3 => assumption); (case k4 => omega); (case k5 => omega); (case k6 => assumption); (case k7 => with_unfolding_all rfl); k_whole); intro t'))
local macro_rules | `(tactic| k_steps) => `(tactic| repeat' ((fail_if_success (with_reducible show wpAny _ _ (execs (Stmt.Assign [Expr.Name (Str.ofString "queue") _] _ _ :: _) _) _ _ _)); first | (k_unfold; (try dsimp only)) | (k_end; wrow_close) | walk1 | (dsimp only; walk1) | (leave1; walk_say "STEP leave1"; try dsimp only) | fail "no step"))

theorem turn_ok {w : World} {pp : Program} {ll : List Str} {mean : ExcName → Option Value} {mg mb : Str → Option Value} {h₀ : Heap} {L fa : Addr} {C : CA} {a0 a1 : QA} {i : Nat} {m : Str → Option Value} {s : Shared} {E : Value → Shared → Prop}
    {place : Int} {tp : Tok} {sc : Addr} {ss : List Value} {is : List Int} {kp : List (Addr × Obj)}
    (B : Below callerA h₀ [] h₀) (X : (hd.heap_39 w.params).In h₀) (T : Top pp ll mean mg mb h₀) (hnd : (tgt C a0 a1).Nodup) (hnd' : (tgt C a1 a0).Nodup)
    (ha : LamOK w pp ll mean mg mb a0.f a0.nk C.ls a0.kd a0.cst) (ha' : LamOK w pp ll mean mg mb a1.f a1.nk C.ls a1.kd a1.cst) (S : StOk h₀ L C false a0 a1 i kp s.heap) (hi : i < 48) (hpl : place = 0 + (i : Int))
    (hsc : h₀.IsList sc ss.toArray) (hI : IntsAre ss is) (hss : ss.length ≤ 63)
    (F : Fr h₀ L s.heap (kstB m [(Str.ofString "place", .int place tp), (Str.ofString "queues", .ref C.lq), (Str.ofString "rows", .ref C.lr), (Str.ofString "pushed", .ref C.lp), (Str.ofString "script", .ref sc)])) :
    wpAny (model PySem.Challenge.rw_ah6005_01.row.prog w) (callerA.deeper (lawEnv w.params L fa)) (execs (forBody ((lawBody w.params).drop 8)) (lawEnv w.params L fa))
      (TailPost h₀ L C false a0 a1 (i + 1) kp sc s) E s := by
  have S0 := S
  revert X
  k_fill
  intro X
  obtain ⟨x, y, sh, ts, c1, c2, c3, rest, N, hkp, hoff, hC, aC, oC, xOk, yOk⟩ := S
  dsimp only [kstB] at F
  have hbody := (rfl : (forBody ((lawBody w.params).drop 8)) = (forBody ((lawBody w.params).drop 8)))
  conv at hbody => rhs; whnf
  rw [hbody]; clear hbody
  dsimp only [lawEnv]
  have hcl := (rfl : cellsFrom (L + 1) (lawScope w.params).names [] = cellsFrom (L + 1) (lawScope w.params).names [])
  conv at hcl => rhs; whnf
  rw [hcl]; clear hcl
  have hsc2 := (rfl : lawScope w.params = lawScope w.params)
  conv at hsc2 => rhs; whnf
  rw [hsc2]; clear hsc2
  dsimp only [lawLed] at N
  have h48 : place < 48 := by omega
  have h00 : 0 ≤ place := by omega
  clear hpl
  k_steps
  all_goals dsimp only
  all_goals
    rename Fr _ _ _ _ => F9
    rename News _ _ _ _ => N9
    have S9 : StOk h₀ L C false a0 a1 i kp _ := ⟨x, y, sh, ts, c1, c2, c3, rest, N9, hkp, hoff, hC, aC, oC, xOk, yOk⟩
    clear N9
  all_goals
    have G9 := Fr.seen (m := _) [(Str.ofString "which", .int _ _), (Str.ofString "deed", .int _ _), (Str.ofString "value", .int _ _), (Str.ofString "number", .int _ _), (Str.ofString "queues", .ref C.lq), (Str.ofString "rows", .ref C.lr), (Str.ofString "pushed", .ref C.lp), (Str.ofString "script", .ref sc)] F9
      (List.forall_mem_cons.mpr ⟨rfl, List.forall_mem_cons.mpr ⟨rfl, List.forall_mem_cons.mpr ⟨rfl, List.forall_mem_cons.mpr ⟨rfl, List.forall_mem_cons.mpr ⟨rfl, List.forall_mem_cons.mpr ⟨rfl, List.forall_mem_cons.mpr ⟨rfl, List.forall_mem_cons.mpr ⟨rfl, List.forall_mem_nil _⟩⟩⟩⟩⟩⟩⟩⟩)
    rcases ix_01 (Int.fmod_nonneg_of_pos _ (by decide)) (Int.fmod_lt_of_pos (_ + place) (by decide : (0 : Int) < 2)) with hw | hw
    · exact tail_ok (b := false) (a := a0) (o := a1) (bd := i) B X T hnd (hw.trans rfl) ha S9 (by omega) G9
    · exact wpAny_mono (tail_ok (b := true) (a := a1) (o := a0) (bd := i) B X T hnd' (hw.trans rfl) ha' S9.swap (by omega) G9) (fun _ _ h => h.swap) (fun _ _ x => x)
end Mine
theorem Mine.freshE5 : (0 : Nat) = 0 := by
  w_top off
  first | walk1 | rfl
namespace Mine


local macro_rules | `(tactic| k_mem) => `(tactic| assumption)
local macro_rules | `(tactic| k_units) => `(tactic| ktr_units)
local macro_rules | `(tactic| walk_at "subscriptTail") => `(tactic| (k_here; (with_reducible show wpAny _ _ (subscriptTail _ _ (Value.ref _) (Value.int _ _)) _ _ _); (with_unfolding_all refine' pair_item ?N ?m ?k ?_ ?s; (case N => k_asm); (case m => k_mem); (case k => assumption); (case s => with_unfolding_all rfl); k_whole)))
local macro_rules | `(tactic| walk_at "subscriptTail") => `(tactic| (k_here; (with_reducible show wpAny _ _ (subscriptTail _ _ (Value.ref _) (Value.int 0 _)) _ _ _); (with_unfolding_all refine' one_item ?N ?m ?_ ?s; (case N => k_asm); (case m => k_mem); (case s => with_unfolding_all rfl); k_whole)))
local macro_rules | `(tactic| walk_at "compareOp Eq ref ref") => `(tactic| (k_here; (with_reducible show wpAny _ _ (compareOp CmpOp.Eq (Value.ref _) (Value.ref _)) _ _ _); k_dflt (refine' eq_nil ?N ?l ?e ?u ?_; (case N => k_asm); (case l => k_mem); (case e => k_mem); (case u => first | ke_room | ktr_units); k_whole)))
local macro_rules | `(tactic| walk_at "compareOp NotEq ref ref") => `(tactic| (k_here; (with_reducible show wpAny _ _ (compareOp CmpOp.NotEq (Value.ref _) (Value.ref _)) _ _ _); k_dflt (refine' ne_nil ?N ?l ?e ?u ?_; (case N => k_asm); (case l => k_mem); (case e => k_mem); (case u => first | ke_room | ktr_units); k_whole)))
local macro_rules | `(tactic| k_ne) => `(tactic| first | assumption | exact Ne.symm (by assumption) | (refine neN ?_; (try dsimp only); omega))
local macro_rules | `(tactic| k_all) => `(tactic| first | assumption | exact List.forall_mem_nil _ | (refine' List.forall_mem_cons.mpr ⟨?a, ?b⟩; (case a => k_ne); (case b => k_all)))
local macro_rules | `(tactic| walk_at "setItem ref int") => `(tactic| (k_here; k_dflt (first | (refine' pair_setU ?F ?N ?k ?U ?_; (case F => k_asm); (case N => k_asm); (case k => assumption); (case U => k_upd)) | (refine' one_setU ?F ?N ?U ?_; (case F => k_asm); (case N => k_asm); (case U => k_upd))); intro h' F' N'; (try k_sweep)))
local macro_rules | `(tactic| walk_at "binaryOp Add ref ref") => `(tactic| (k_here; (with_reducible show wpAny _ _ (binaryOp _ (Value.ref _) (Value.ref _)) _ _ _); k_dflt (refine' led_add ?F ?N ?a ?b ?z ?_; (case F => k_asm); (case N => k_asm); (case a => k_mem); (case b => k_mem); (case z => ((simp only [List.length_cons, List.length_nil]); omega))); intro D' h' F' N' l1; (try k_lt l1); (try k_sweep)))
local macro_rules | `(tactic| walk_at "call ref") => `(tactic| (k_here; (try dsimp only [List.nil_append, List.cons_append]); (with_reducible show wpAny _ _ (call (Value.ref 35) [Value.ref _]) _ _ _); k_dflt (refine' ctr_use (ctr_bool ?p1 ?p2 ?p3 ?p4 ?p5) ?k1 ?k2 ?k3 ?k4 ?k5 ?kK ?kd ?ku ?_; (case k1 => k_asm); (case k2 => k_asm); (case k3 => k_asm); (case k4 => k_asm); (case k5 => k_asm); (case p1 => k_mem); (case p2 => k_mem); (case p3 => k_mem); (case p4 => assumption); (case p5 => assumption); (case kK => exact rfl); (case kd => k_room); (case ku => decide)); intro r9 news9 h' tk' F' N' hP; obtain ⟨e9, e8⟩ := hP; subst e9; subst e8; (try k_sweep)))

local macro_rules | `(tactic| walk_at "exec For") => `(tactic| (k_here; k_dflt (refine' For_turns ?F ?_ ?hf ?hE; (case F => k_asm); (case hf => exact fun _ => rfl); (case hE => assumption); k_whole)))
local macro_rules | `(tactic| k_steps) => `(tactic| repeat' ((fail_if_success (with_reducible show wpAny _ _ (pyIter _) _ _ _)); (fail_if_success (with_reducible show wpAny _ _ (call (Value.ref 84) _) _ _ _)); (fail_if_success (with_reducible show wpAny _ _ (execs (Stmt.If _ _ _ _ :: _) _) _ _ _)); first | (k_unfold; (try dsimp only)) | (k_end; wrow_close) | walk1 | (dsimp only; walk1) | (leave1; walk_say "STEP leave1"; try dsimp only) | fail "no step"))
section
variable {prog : Program} {w : World} {A : Around} {E : Value → Shared → Prop} {s : Shared} {env : Env} {h₀ : Heap} {target : PySem.Expr} {body : List Stmt} {Q : Flow → Shared → Prop}
theorem pair_loop {ax : Addr} {lo : Obj} {t0 t1 : Tok} {n : Nat} {m₀ : Str → Option Value} {news : List (Addr × Obj)} (J : Nat → (Str → Option Value) → List (Addr × Obj) → Prop)
    (hh : A.handled = none) (F : Fr h₀ env.locals s.heap m₀) (N : News h₀ env.locals s.heap news) (hax : (ax, lo) ∈ news) (h1 : lo.cls = .type "tuple") (h2 : lo.data = .seq [Value.int 0 t0, .int 1 t1].toArray n) (hj : J 0 m₀ news)
    (turn : ∀ (I : Addr) (it : Obj) (b : Bool) (t : Tok) m₁ news₁ h tk, J (if b then 1 else 0) m₁ news₁ → it.cls = .type "tuple_iterator" → (∀ p ∈ news₁, p.1 ≠ I) → (ax, lo) ∈ news₁ → Fr h₀ env.locals h m₁ → News h₀ env.locals h ((I, it) :: news₁) →
      wpAny (model prog w) A (assign target env (.int (ix b) t)) (fun _ s₂ => wpAny (model prog w) A (execs body env) (UnrPostW h₀ env.locals { s with heap := h, toks := tk } [(I, it)] (fun m' n' => (ax, lo) ∈ n' ∧ J ((if b then 1 else 0) + 1) m' n') Q) E s₂) E { s with heap := h, toks := tk })
    (done : ∀ m₁ news₁ h tk, J 2 m₁ news₁ → Fr h₀ env.locals h m₁ → News h₀ env.locals h news₁ → Q .next { s with heap := h, toks := tk }) :
    wpAny (model prog w) A (pyIter (.ref ax)) (fun it s₂ => TurnsAt prog w A h₀ env target body Q E it s₂) E s := by
  refine iter_tupTurns hh F N hax h1 h2 fun I hI => ?_
  refine ItemsRest.val fun h tk F₁ => ?_
  intro it hit N₁
  refine wpAny_mono (turn I it false t0 m₀ news h tk hj hit (fun p hp => Nat.ne_of_lt (hI p hp)) hax F₁ N₁) (fun x s₂ p => wpAny_mono p (fun f s₃ q => ?_) fun _ _ x => x) fun _ _ x => x
  have up : ∀ s₃, UnrEndW h₀ env.locals { s with heap := h, toks := tk } [(I, it)] (fun m' n' => (ax, lo) ∈ n' ∧ J 1 m' n') s₃ →
      UnrEndW h₀ env.locals { s with heap := h, toks := tk } [(I, it)] (fun m' n' => SubL [(ax, lo)] n' ∧ ItemsRest prog w A E h₀ env target body Q s [(I, "tuple_iterator")] [(ax, lo)] [Itm.val (.int 1 t1)] m' n') s₃ := by
    rintro s₃ ⟨h', tk', m', news', e', F', N', ho, hax', hJ⟩
    refine ⟨h', tk', m', news', e', F', N', ho, ⟨hax', True.intro⟩, ?_⟩
    refine ItemsRest.val fun h tk F₁ => ?_
    intro it hit N₁
    refine wpAny_mono (turn I it true t1 m' news' h tk hJ hit (fun p hp => ho p hp _ (List.Mem.head _)) hax' F₁ N₁) (fun x s₂ p => wpAny_mono p (fun f s₃ q => ?_) fun _ _ x => x) fun _ _ x => x
    have up2 : ∀ s₃, UnrEndW h₀ env.locals { s with heap := h, toks := tk } [(I, it)] (fun m' n' => (ax, lo) ∈ n' ∧ J 2 m' n') s₃ →
      UnrEndW h₀ env.locals { s with heap := h, toks := tk } [(I, it)] (fun m' n' => SubL [(ax, lo)] n' ∧ ItemsRest prog w A E h₀ env target body Q s [(I, "tuple_iterator")] [(ax, lo)] [] m' n') s₃ := by
      rintro s₃ ⟨h', tk', m', news', e', F', N', ho, hax', hJ⟩
      exact ⟨h', tk', m', news', e', F', N', ho, ⟨hax', True.intro⟩, ItemsRest.zero fun h tk F₁ N₁ => done _ _ h tk hJ F₁ N₁⟩
    cases f with
    | ret v => exact q
    | brk => exact q
    | next => exact up2 _ q
    | cont => exact up2 _ q
  cases f with
  | ret v => exact q
  | brk => exact q
  | next => exact up _ q
  | cont => exact up _ q
end

structure NotIts (L : Addr) (C : CA) (a o : QA) (I : Addr) : Prop where
  ck : L + 1 ≠ I
  cn : L + 1 + 1 ≠ I
  cs : L + 1 + 1 + 1 ≠ I
  fa : a.f ≠ I
  fo : o.f ≠ I
  ca : ∀ p ∈ a.cst, p.1 ≠ I
  co : ∀ p ∈ o.cst, p.1 ≠ I
theorem StL.notIts {L : Addr} {C : CA} {b : Bool} {a o : QA} {bd : Nat} {I : Addr} {led : List (Addr × Obj)} (S : StL L C b a o bd led) (h : ∀ p ∈ led, p.1 ≠ I) : NotIts L C a o I := by
  obtain ⟨x, y, sh, ts, c1, c2, c3, rest, rfl, hoff, cC, aC, oC, xOk, yOk⟩ := S
  exact ⟨h _ (tail7 _ cC.ck), h _ (tail7 _ cC.cn), h _ (tail7 _ cC.cs), h _ (tail7 _ aC.f), h _ (tail7 _ oC.f), fun p hp => h _ (tail7 _ (aC.cst p hp)), fun p hp => h _ (tail7 _ (oC.cst p hp))⟩
theorem tI1 {v : Addr} : Value.ref v ≠ .type "tuple_iterator" := fun h => by cases h
theorem tI2 {s : String} (h : s ≠ "tuple_iterator") : Value.type s ≠ .type "tuple_iterator" := fun e => h (by injection e)
theorem StOk.toG {h₀ : Heap} {L : Addr} {C : CA} {b : Bool} {a o : QA} {bd : Nat} {h : Heap} {I : Addr} {it : Obj} {kp : List (Addr × Obj)} (S : StOk h₀ L C b a o bd kp h) (hm : (I, it) ∈ kp) (hc : it.cls = .type "tuple_iterator") (NI : NotIts L C a o I) :
    ∃ led, News h₀ L h ((I, it) :: led) ∧ (∀ p ∈ led, p.1 ≠ I) ∧ (∀ p ∈ kp, p.2.cls ≠ .type "tuple_iterator" → p ∈ led) ∧ StL L C b a o bd led := by
  obtain ⟨x, y, sh, ts, c1, c2, c3, rest, N, hkp, hoff, cC, aC, oC, xOk, yOk⟩ := S
  have hIm : (I, it) ∈ rest := hkp _ hm
  have hIt : I ∉ tgt C a o := hoff _ hIm
  have hu : ∀ p ∈ rest, p.1 = I → p.2 = it := fun p hp e => by
    have h1 := (N p (tail7 p hp)).1
    have h2 := (N _ (tail7 _ hIm)).1
    rw [e] at h1
    exact Option.some.inj (h1.symm.trans h2)
  have hk : ∀ p ∈ rest, p.2.cls ≠ .type "tuple_iterator" → p ∈ rest.filter (fun p => decide (p.1 ≠ I)) := fun p hp hn => List.mem_filter.mpr ⟨hp, decide_eq_true fun e => hn (by rw [hu p hp e]; exact hc)⟩
  have hf : ∀ p ∈ rest.filter (fun p => decide (p.1 ≠ I)), p ∈ rest := fun p hp => (List.mem_filter.mp hp).1
  have hkA : ∀ p ∈ rest, p.1 ≠ I → p ∈ rest.filter (fun p => decide (p.1 ≠ I)) := fun p hp hn => List.mem_filter.mpr ⟨hp, decide_eq_true hn⟩
  have hT : ∀ p vs, (p, tupO vs) ∈ rest → (p, tupO vs) ∈ rest.filter (fun p => decide (p.1 ≠ I)) := fun p vs hp => hk _ hp (tI2 (by decide))
  have qc : ∀ {a : QA}, QConst a rest → a.f ≠ I → (∀ p ∈ a.cst, p.1 ≠ I) → QConst a (rest.filter (fun p => decide (p.1 ≠ I))) := fun q ho hcs =>
    ⟨hk _ q.q tI1, hk _ q.d (tI2 (by decide)), hkA _ q.f ho, fun p hp => hkA _ (q.cst p hp) (hcs p hp), q.cstI, q.kd0, q.kd4⟩
  have qo : ∀ {a : QA} {x : QS}, QOk a x rest bd → QOk a x (rest.filter (fun p => decide (p.1 ≠ I))) bd := fun q =>
    ⟨q.vs.monoT hT, q.us.monoT hT, q.ns, q.ps, hk _ q.hr (tI2 (by decide)), hk _ q.hp (tI2 (by decide)), q.rb, q.pb⟩
  refine ⟨lawLed C b a o x y sh ts c1 c2 c3 (rest.filter (fun p => decide (p.1 ≠ I))), fun p hp => ?_, fun p hp => ?_, fun p hp hn => tail7 _ (hk p (hkp p hp) hn), x, y, sh, ts, c1, c2, c3, _, rfl, fun p hp => hoff p (hf p hp), ?_, qc aC NI.fa NI.ca, qc oC NI.fo NI.co, qo xOk, qo yOk⟩
  · refine N p ?_
    simp only [lawLed, List.mem_cons] at hp ⊢
    rcases hp with h | h | h | h | h | h | h | h | h
    · exact .inr (.inr (.inr (.inr (.inr (.inr (.inr (by rw [h]; exact hIm)))))))
    all_goals first | (simp [h]; done) | exact .inr (.inr (.inr (.inr (.inr (.inr (.inr (hf _ h)))))))
  · simp only [tgt, List.mem_cons, List.not_mem_nil, or_false, not_or] at hIt
    obtain ⟨h1, h2, h3, h4, h5, h6, h7⟩ := hIt
    simp only [lawLed, List.mem_cons] at hp
    rcases hp with h | h | h | h | h | h | h | h
    · rw [h]; exact Ne.symm h1
    · rw [h]; exact Ne.symm h2
    · rw [h]; exact Ne.symm h3
    · rw [h]; exact Ne.symm h4
    · rw [h]; exact Ne.symm h5
    · rw [h]; exact Ne.symm h6
    · rw [h]; exact Ne.symm h7
    · exact of_decide_eq_true (List.mem_filter.mp h).2
  · exact ⟨hk _ cC.lq (tI2 (by decide)), hk _ cC.ln (tI2 (by decide)), hk _ cC.lk (tI2 (by decide)), hkA _ cC.ck NI.ck, hkA _ cC.cn NI.cn, hkA _ cC.cs NI.cs, cC.dk, cC.dn, cC.ds⟩
/-- A further entry of the ledger is kept. -/
theorem StOk.add {h₀ : Heap} {L : Addr} {C : CA} {b : Bool} {a o : QA} {bd : Nat} {h : Heap} {kp ex led : List (Addr × Obj)} (S : StL L C b a o bd led) (N : News h₀ L h (ex ++ led)) (hI : ∀ p ∈ ex, ∀ q ∈ led, q.1 ≠ p.1) (hkp : ∀ p ∈ kp, p ∈ ex ∨ (p ∈ led ∧ p.1 ∉ tgt C a o)) : StOk h₀ L C b a o bd kp h := by
  obtain ⟨x, y, sh, ts, c1, c2, c3, rest, rfl, hoff, cC, aC, oC, xOk, yOk⟩ := S
  have hsb : ∀ p ∈ rest, p ∈ ex ++ rest := fun p hp => List.mem_append_right _ hp
  refine ⟨x, y, sh, ts, c1, c2, c3, ex ++ rest, kst_newsOf N (fun p hp => ?_), fun p hp => ?_, fun p hp => ?_, cC.mono hsb, aC.mono hsb, oC.mono hsb, xOk.mono hsb (Nat.le_refl _), yOk.mono hsb (Nat.le_refl _)⟩
  · simp only [lawLed, List.mem_cons, List.mem_append] at hp ⊢
    rcases hp with h | h | h | h | h | h | h | h | h <;> simp [h]
  · rcases hkp p hp with h | ⟨h, h'⟩
    · exact List.mem_append_left _ h
    · refine List.mem_append_right _ ?_
      simp only [lawLed, List.mem_cons] at h
      simp only [tgt, List.mem_cons, List.not_mem_nil, or_false, not_or] at h'
      rcases h with h | h | h | h | h | h | h | h <;> first | exact h | (rw [h] at h'; simp at h')
  · rcases List.mem_append.mp hp with hp | hp
    · have := hI p hp
      simp only [lawLed, List.forall_mem_cons] at this
      obtain ⟨h1, h2, h3, h4, h5, h6, h7, -⟩ := this
      simp only [tgt, List.mem_cons, List.not_mem_nil, or_false, not_or]
      exact ⟨h1.symm, h2.symm, h3.symm, h4.symm, h5.symm, h6.symm, h7.symm⟩
    · exact hoff p hp
end Mine
theorem Mine.freshE6 : (0 : Nat) = 0 := by
  w_top off
  first | walk1 | rfl
namespace Mine


local macro_rules | `(tactic| k_mem) => `(tactic| assumption)
local macro_rules | `(tactic| k_units) => `(tactic| ktr_units)
local macro_rules | `(tactic| walk_at "subscriptTail") => `(tactic| (k_here; (with_reducible show wpAny _ _ (subscriptTail _ _ (Value.ref _) (Value.int _ _)) _ _ _); (with_unfolding_all refine' pair_item ?N ?m ?k ?_ ?s; (case N => k_asm); (case m => k_mem); (case k => assumption); (case s => with_unfolding_all rfl); k_whole)))
local macro_rules | `(tactic| walk_at "subscriptTail") => `(tactic| (k_here; (with_reducible show wpAny _ _ (subscriptTail _ _ (Value.ref _) (Value.int 0 _)) _ _ _); (with_unfolding_all refine' one_item ?N ?m ?_ ?s; (case N => k_asm); (case m => k_mem); (case s => with_unfolding_all rfl); k_whole)))
local macro_rules | `(tactic| walk_at "compareOp Eq ref ref") => `(tactic| (k_here; (with_reducible show wpAny _ _ (compareOp CmpOp.Eq (Value.ref _) (Value.ref _)) _ _ _); k_dflt (refine' eq_nil ?N ?l ?e ?u ?_; (case N => k_asm); (case l => k_mem); (case e => k_mem); (case u => first | ke_room | ktr_units); k_whole)))
local macro_rules | `(tactic| walk_at "compareOp NotEq ref ref") => `(tactic| (k_here; (with_reducible show wpAny _ _ (compareOp CmpOp.NotEq (Value.ref _) (Value.ref _)) _ _ _); k_dflt (refine' ne_nil ?N ?l ?e ?u ?_; (case N => k_asm); (case l => k_mem); (case e => k_mem); (case u => first | ke_room | ktr_units); k_whole)))
local macro_rules | `(tactic| k_ne) => `(tactic| first | assumption | exact Ne.symm (by assumption) | (refine neN ?_; (try dsimp only); omega))
local macro_rules | `(tactic| k_all) => `(tactic| first | assumption | exact List.forall_mem_nil _ | (refine' List.forall_mem_cons.mpr ⟨?a, ?b⟩; (case a => k_ne); (case b => k_all)))
local macro_rules | `(tactic| walk_at "setItem ref int") => `(tactic| (k_here; k_dflt (first | (refine' pair_setU ?F ?N ?k ?U ?_; (case F => k_asm); (case N => k_asm); (case k => assumption); (case U => k_upd)) | (refine' one_setU ?F ?N ?U ?_; (case F => k_asm); (case N => k_asm); (case U => k_upd))); intro h' F' N'; (try k_sweep)))
local macro_rules | `(tactic| walk_at "binaryOp Add ref ref") => `(tactic| (k_here; (with_reducible show wpAny _ _ (binaryOp _ (Value.ref _) (Value.ref _)) _ _ _); k_dflt (refine' led_add ?F ?N ?a ?b ?z ?_; (case F => k_asm); (case N => k_asm); (case a => k_mem); (case b => k_mem); (case z => ((simp only [List.length_cons, List.length_nil]); omega))); intro D' h' F' N' l1; (try k_lt l1); (try k_sweep)))
local macro_rules | `(tactic| walk_at "call ref") => `(tactic| (k_here; (try dsimp only [List.nil_append, List.cons_append]); (with_reducible show wpAny _ _ (call (Value.ref 35) [Value.ref _]) _ _ _); k_dflt (refine' ctr_use (ctr_bool ?p1 ?p2 ?p3 ?p4 ?p5) ?k1 ?k2 ?k3 ?k4 ?k5 ?kK ?kd ?ku ?_; (case k1 => k_asm); (case k2 => k_asm); (case k3 => k_asm); (case k4 => k_asm); (case k5 => k_asm); (case p1 => k_mem); (case p2 => k_mem); (case p3 => k_mem); (case p4 => assumption); (case p5 => assumption); (case kK => exact rfl); (case kd => k_room); (case ku => decide)); intro r9 news9 h' tk' F' N' hP; obtain ⟨e9, e8⟩ := hP; subst e9; subst e8; (try k_sweep)))

local macro_rules | `(tactic| walk_at "exec For") => `(tactic| (k_here; k_dflt (refine' For_turns ?F ?_ ?hf ?hE; (case F => k_asm); (case hf => exact fun _ => rfl); (case hE => assumption); k_whole)))
local macro_rules | `(tactic| k_steps) => `(tactic| repeat' ((fail_if_success (with_reducible show wpAny _ _ (pyIter _) _ _ _)); (fail_if_success (with_reducible show wpAny _ _ (call (Value.ref 84) _) _ _ _)); first | (k_unfold; (try dsimp only)) | (k_end; wrow_close) | walk1 | (dsimp only; walk1) | (leave1; walk_say "STEP leave1"; try dsimp only) | fail "no step"))

theorem StOk.toL0 {h₀ : Heap} {L : Addr} {C : CA} {b : Bool} {a o : QA} {bd : Nat} {kp : List (Addr × Obj)} {h : Heap} (S : StOk h₀ L C b a o bd kp h) : ∃ led, News h₀ L h led ∧ StL L C b a o bd led ∧ (∀ p ∈ kp, p ∈ led ∧ p.1 ∉ tgt C a o) := by
  obtain ⟨x, y, sh, ts, c1, c2, c3, rest, N, hkp, hoff, cC, aC, oC, xOk, yOk⟩ := S
  exact ⟨_, N, ⟨x, y, sh, ts, c1, c2, c3, rest, rfl, hoff, cC, aC, oC, xOk, yOk⟩, fun p hp => ⟨tail7 _ (hkp p hp), hoff p (hkp p hp)⟩⟩
def Names (C : CA) (sc : Addr) (m : Str → Option Value) : Prop := m (Str.ofString "queues") = some (.ref C.lq) ∧ m (Str.ofString "rows") = some (.ref C.lr) ∧ m (Str.ofString "pushed") = some (.ref C.lp) ∧ m (Str.ofString "script") = some (.ref sc)
theorem StL.mono {L : Addr} {C : CA} {b : Bool} {a o : QA} {bd bd' : Nat} {led : List (Addr × Obj)} (S : StL L C b a o bd led) (h : bd ≤ bd') : StL L C b a o bd' led := by
  obtain ⟨x, y, sh, ts, c1, c2, c3, rest, e, hoff, cC, aC, oC, xOk, yOk⟩ := S
  exact ⟨x, y, sh, ts, c1, c2, c3, rest, e, hoff, cC, aC, oC, xOk.mono (fun _ h => h) h, yOk.mono (fun _ h => h) h⟩

def headOf : List Stmt → Stmt
  | s :: _ => s
  | [] => .Pass default
theorem first_turn {w : World} {pp : Program} {ll : List Str} {mean : ExcName → Option Value} {mg mb : Str → Option Value} {h₀ : Heap} {L fa : Addr} {C : CA} {b : Bool} {a o : QA} {m : Str → Option Value} {s : Shared} {E : Value → Shared → Prop}
    {wv : Int} {tw : Tok} {sc : Addr} {kp : List (Addr × Obj)}
    (B : Below callerA h₀ [] h₀) (X : (hd.heap_39 w.params).In h₀) (T : Top pp ll mean mg mb h₀) (hwv : wv = ix b) (S : StOk h₀ L C b a o 0 kp s.heap)
    (F : Fr h₀ L s.heap (kstB m [(Str.ofString "which", .int wv tw), (Str.ofString "queues", .ref C.lq), (Str.ofString "rows", .ref C.lr), (Str.ofString "pushed", .ref C.lp), (Str.ofString "script", .ref sc)])) :
    wpAny (model PySem.Challenge.rw_ah6005_01.row.prog w) (callerA.deeper (lawEnv w.params L fa)) (execs (forBody ((lawBody w.params).drop 7)) (lawEnv w.params L fa))
      (TailPost h₀ L C b a o 0 kp sc s) E s := by
  revert X
  k_fill
  intro X
  obtain ⟨x, y, sh, ts, c1, c2, c3, rest, N, hkp, hoff, cC, ⟨aq, ad, af, acst, acstI, ak0, ak4⟩, oC, xOk, yOk⟩ := S
  dsimp only [kstB] at F
  have hbody := (rfl : (forBody ((lawBody w.params).drop 7)) = (forBody ((lawBody w.params).drop 7)))
  conv at hbody => rhs; whnf
  have hcl := (rfl : cellsFrom (L + 1) (lawScope w.params).names [] = cellsFrom (L + 1) (lawScope w.params).names [])
  conv at hcl => rhs; whnf
  have hsc2 := (rfl : lawScope w.params = lawScope w.params)
  conv at hsc2 => rhs; whnf
  rw [hbody]; clear hbody
  dsimp only [lawEnv]
  rw [hcl, hsc2]; clear hcl hsc2
  dsimp only [lawLed] at N
  have clq := cC.lq
  have hr0 : x.rows = [] := List.eq_nil_of_length_eq_zero (Nat.le_zero.mp xOk.rb)
  have hv0 : x.vs = [] := List.eq_nil_of_length_eq_zero (by rw [xOk.vs.length, hr0]; rfl)
  have hxl : (isort x.rows).length < 1000 := by rw [hr0]; decide
  have hi0 : isort x.rows = [] := by rw [hr0]; rfl
  have xvs := xOk.vs
  k_steps
  · exact absurd hi0 (by assumption)
  · rename Fr _ _ _ _ => F9
    rename News _ _ _ _ => N9
    rw [hv0] at N9
    k_dflt (refine' ctrT_use (ctr_refused ?p1 ?p2 ?p3) ?k1 ?k2 ?k3 ?k4 ?k5 ?k6 ?k7 ?kK ?kd ?ku ?_; (case k1 => exact B); (case k2 => k_asm); (case k3 => k_asm); (case k4 => exact N9); (case k5 => exact T); (case k6 => exact X); (case k7 => exact T); (case kK => exact rfl); (case kd => k_room); (case ku => decide); (case p1 => k_mem); (case p2 => k_mem); (case p3 => k_mem))
    rintro r9 news9 h9 tk9 F9 N9 ⟨rfl, rfl⟩
    k_steps
    rename Fr _ _ _ _ => F9
    rename News _ _ _ _ => N9
    have xOk2 : QOk a ⟨x.r, x.p, [], x.ns, x.us, x.ps, x.n1, x.n2, x.n3, x.n4, x.rows, x.pushed⟩ rest 0 := ⟨hv0 ▸ xOk.vs, xOk.us, xOk.ns, xOk.ps, xOk.hr, xOk.hp, xOk.rb, xOk.pb⟩
    exact ⟨rfl, _, _, _, rfl, F9, ⟨_, y, sh, ts, c1, c2, c3, rest, N9, hkp, hoff, cC, ⟨aq, ad, af, acst, acstI, ak0, ak4⟩, oC, xOk2, yOk⟩, rfl, rfl, rfl, rfl⟩

local macro_rules | `(tactic| k_steps) => `(tactic| repeat' ((fail_if_success (with_reducible show wpAny _ _ (pyIter _) _ _ _)); (fail_if_success (with_reducible show wpAny _ _ (execs (Stmt.If _ _ _ _ :: _) _) _ _ _)); first | (k_unfold; (try dsimp only)) | (k_end; wrow_close) | walk1 | (dsimp only; walk1) | (leave1; walk_say "STEP leave1"; try dsimp only) | fail "no step"))

theorem pair_end {h₀ : Heap} {L : Addr} {C : CA} {a o : QA} {bd : Nat} {sc ax I : Addr} {lo it : Obj} {s₁ s₂ s' : Shared} {f : Flow} {Q : Flow → Shared → Prop} (hs : ∀ (h : Heap) (tk : Nat), ({ s₂ with heap := h, toks := tk } : Shared) = { s₁ with heap := h, toks := tk }) (hit : it.cls = .type "tuple_iterator") (hlo : lo.cls ≠ .type "tuple_iterator") (NI : NotIts L C a o I)
    (h : TailPost h₀ L C false a o bd [(I, it), (ax, lo)] sc s₂ f s') : UnrPostW h₀ L s₁ [(I, it)] (fun m' n' => (ax, lo) ∈ n' ∧ StL L C false a o bd n' ∧ Names C sc m') Q f s' := by
  obtain ⟨rfl, h', tk', m', e, F', S', hn⟩ := h
  obtain ⟨led', N', ho, hk', SL'⟩ := S'.toG (List.Mem.head _) hit NI
  exact ⟨h', tk', m', led', e.trans (hs _ _), F', N', (fun p hp q hq => by rw [List.mem_singleton.mp hq]; exact ho p hp), hk' _ (List.Mem.tail _ (List.Mem.head _)) hlo, SL', hn⟩
theorem first_ok {w : World} {pp : Program} {ll : List Str} {mean : ExcName → Option Value} {mg mb : Str → Option Value} {h₀ : Heap} {L fa : Addr} {C : CA} {a0 a1 : QA} {m : Str → Option Value} {s : Shared} {E : Value → Shared → Prop} {sc : Addr} {kp : List (Addr × Obj)}
    (B : Below callerA h₀ [] h₀) (X : (hd.heap_39 w.params).In h₀) (T : Top pp ll mean mg mb h₀) (S : StOk h₀ L C false a0 a1 0 kp s.heap)
    (hE : PassesOwn (model PySem.Challenge.rw_ah6005_01.row.prog w) (callerA.deeper (lawEnv w.params L fa)) (lawEnv w.params L fa) E)
    (F : Fr h₀ L s.heap (kstB m [(Str.ofString "queues", .ref C.lq), (Str.ofString "rows", .ref C.lr), (Str.ofString "pushed", .ref C.lp), (Str.ofString "script", .ref sc)])) :
    wpAny (model PySem.Challenge.rw_ah6005_01.row.prog w) (callerA.deeper (lawEnv w.params L fa)) (exec (headOf ((lawBody w.params).drop 7)) (lawEnv w.params L fa))
      (TailPost h₀ L C false a0 a1 0 [] sc s) E s := by
  have hft := fun b a o m s wv tw kp => @first_turn w pp ll mean mg mb h₀ L fa C b a o m s E wv tw sc kp B X T
  revert X
  k_fill
  intro X
  obtain ⟨led, N, SL, -⟩ := S.toL0
  clear S
  dsimp only [kstB] at F
  have hfor := (rfl : headOf ((lawBody w.params).drop 7) = headOf ((lawBody w.params).drop 7))
  conv at hfor => rhs; whnf
  have hbody := (rfl : (forBody ((lawBody w.params).drop 7)) = (forBody ((lawBody w.params).drop 7)))
  conv at hbody => rhs; whnf
  have hcl := (rfl : cellsFrom (L + 1) (lawScope w.params).names [] = cellsFrom (L + 1) (lawScope w.params).names [])
  conv at hcl => rhs; whnf
  have hsc2 := (rfl : lawScope w.params = lawScope w.params)
  conv at hsc2 => rhs; whnf
  rw [hfor]; clear hfor
  dsimp only [lawEnv] at hE hft ⊢
  rw [hcl, hsc2] at hE hft ⊢
  clear hcl hsc2
  simp only [hbody] at hft
  clear hbody
  k_steps
  rename Fr _ _ _ _ => F9
  rename News _ _ _ _ => N9
  rename ∀ p ∈ led, _ => l1
  have S1 := StOk.add (ex := [_]) (kp := [_]) SL N9 (fun p hp q hq => by rw [List.mem_singleton.mp hp]; exact Nat.ne_of_lt (l1 q hq)) (fun p hp => .inl hp)
  obtain ⟨led2, N2, SL2, hk2⟩ := S1.toL0
  have hax := hk2 _ (List.Mem.head _)
  clear S1 N9 SL l1 hk2
  refine pair_loop (fun k m n => StL L C false a0 a1 0 n ∧ Names C sc m) (by rfl) F9 N2 hax.1 rfl rfl ⟨SL2, rfl, rfl, rfl, rfl⟩ ?_ ?_
  · rintro I it b t m₁ news₁ h tk ⟨hS, hq, hr, hp, hs⟩ hit hoff hax₁ F₁ N₁
    replace F₁ := Fr.seen [(Str.ofString "queues", .ref C.lq), (Str.ofString "rows", .ref C.lr), (Str.ofString "pushed", .ref C.lp), (Str.ofString "script", .ref sc)] F₁ (List.forall_mem_cons.mpr ⟨hq, List.forall_mem_cons.mpr ⟨hr, List.forall_mem_cons.mpr ⟨hp, List.forall_mem_cons.mpr ⟨hs, List.forall_mem_nil _⟩⟩⟩⟩)
    have NI := hS.notIts hoff
    dsimp only [kstB, envX] at F₁ N₁
    clear F9 N2 SL2
    k_steps
    rename Fr _ _ _ _ => F9
    rename News _ _ _ _ => N9
    have S2 := StOk.add (ex := [(I, it)]) (kp := [(I, it), (_, _)]) hS N9 (fun p hp q hq => by rw [List.mem_singleton.mp hp]; exact hoff q hq) (fun p hp => by
      rcases List.mem_cons.mp hp with rfl | hp
      · exact .inl (List.Mem.head _)
      · rw [List.mem_singleton.mp hp]; exact .inr ⟨hax₁, hax.2⟩)
    have G9 := Fr.seen (m := _) [(Str.ofString "which", .int _ _), (Str.ofString "queues", .ref C.lq), (Str.ofString "rows", .ref C.lr), (Str.ofString "pushed", .ref C.lp), (Str.ofString "script", .ref sc)] F9
      (List.forall_mem_cons.mpr ⟨rfl, List.forall_mem_cons.mpr ⟨rfl, List.forall_mem_cons.mpr ⟨rfl, List.forall_mem_cons.mpr ⟨rfl, List.forall_mem_cons.mpr ⟨rfl, List.forall_mem_nil _⟩⟩⟩⟩⟩)
    cases b
    · exact wpAny_mono (hft false a0 a1 _ _ _ _ _ rfl S2 G9) (fun f s' q => pair_end (fun _ _ => rfl) hit (tI2 (by decide)) NI q) (fun _ _ x => x)
    · exact wpAny_mono (hft true a1 a0 _ _ _ _ _ rfl S2.swap G9) (fun f s' q => pair_end (fun _ _ => rfl) hit (tI2 (by decide)) NI q.swap) (fun _ _ x => x)
  · rintro m₁ news₁ h tk ⟨hS, hn⟩ F₁ N₁
    exact ⟨rfl, h, tk, m₁, rfl, F₁, StOk.add (ex := []) hS N₁ (fun _ h => nomatch h) (fun _ h => nomatch h), hn⟩
end Mine
theorem Mine.freshE7 : (0 : Nat) = 0 := by
  w_top off
  first | walk1 | rfl
namespace Mine


local macro_rules | `(tactic| k_mem) => `(tactic| assumption)
local macro_rules | `(tactic| k_units) => `(tactic| ktr_units)
local macro_rules | `(tactic| walk_at "subscriptTail") => `(tactic| (k_here; (with_reducible show wpAny _ _ (subscriptTail _ _ (Value.ref _) (Value.int _ _)) _ _ _); (with_unfolding_all refine' pair_item ?N ?m ?k ?_ ?s; (case N => k_asm); (case m => k_mem); (case k => assumption); (case s => with_unfolding_all rfl); k_whole)))
local macro_rules | `(tactic| walk_at "subscriptTail") => `(tactic| (k_here; (with_reducible show wpAny _ _ (subscriptTail _ _ (Value.ref _) (Value.int 0 _)) _ _ _); (with_unfolding_all refine' one_item ?N ?m ?_ ?s; (case N => k_asm); (case m => k_mem); (case s => with_unfolding_all rfl); k_whole)))
local macro_rules | `(tactic| walk_at "compareOp Eq ref ref") => `(tactic| (k_here; (with_reducible show wpAny _ _ (compareOp CmpOp.Eq (Value.ref _) (Value.ref _)) _ _ _); k_dflt (refine' eq_nil ?N ?l ?e ?u ?_; (case N => k_asm); (case l => k_mem); (case e => k_mem); (case u => first | ke_room | ktr_units); k_whole)))
local macro_rules | `(tactic| walk_at "compareOp NotEq ref ref") => `(tactic| (k_here; (with_reducible show wpAny _ _ (compareOp CmpOp.NotEq (Value.ref _) (Value.ref _)) _ _ _); k_dflt (refine' ne_nil ?N ?l ?e ?u ?_; (case N => k_asm); (case l => k_mem); (case e => k_mem); (case u => first | ke_room | ktr_units); k_whole)))
local macro_rules | `(tactic| k_ne) => `(tactic| first | assumption | exact Ne.symm (by assumption) | (refine neN ?_; (try dsimp only); omega))
local macro_rules | `(tactic| k_all) => `(tactic| first | assumption | exact List.forall_mem_nil _ | (refine' List.forall_mem_cons.mpr ⟨?a, ?b⟩; (case a => k_ne); (case b => k_all)))
local macro_rules | `(tactic| walk_at "setItem ref int") => `(tactic| (k_here; k_dflt (first | (refine' pair_setU ?F ?N ?k ?U ?_; (case F => k_asm); (case N => k_asm); (case k => assumption); (case U => k_upd)) | (refine' one_setU ?F ?N ?U ?_; (case F => k_asm); (case N => k_asm); (case U => k_upd))); intro h' F' N'; (try k_sweep)))
local macro_rules | `(tactic| walk_at "binaryOp Add ref ref") => `(tactic| (k_here; (with_reducible show wpAny _ _ (binaryOp _ (Value.ref _) (Value.ref _)) _ _ _); k_dflt (refine' led_add ?F ?N ?a ?b ?z ?_; (case F => k_asm); (case N => k_asm); (case a => k_mem); (case b => k_mem); (case z => ((simp only [List.length_cons, List.length_nil]); omega))); intro D' h' F' N' l1; (try k_lt l1); (try k_sweep)))
local macro_rules | `(tactic| walk_at "call ref") => `(tactic| (k_here; (try dsimp only [List.nil_append, List.cons_append]); (with_reducible show wpAny _ _ (call (Value.ref 35) [Value.ref _]) _ _ _); k_dflt (refine' ctr_use (ctr_bool ?p1 ?p2 ?p3 ?p4 ?p5) ?k1 ?k2 ?k3 ?k4 ?k5 ?kK ?kd ?ku ?_; (case k1 => k_asm); (case k2 => k_asm); (case k3 => k_asm); (case k4 => k_asm); (case k5 => k_asm); (case p1 => k_mem); (case p2 => k_mem); (case p3 => k_mem); (case p4 => assumption); (case p5 => assumption); (case kK => exact rfl); (case kd => k_room); (case ku => decide)); intro r9 news9 h' tk' F' N' hP; obtain ⟨e9, e8⟩ := hP; subst e9; subst e8; (try k_sweep)))

local macro_rules | `(tactic| walk_at "exec For") => `(tactic| (k_here; k_dflt (refine' For_turns ?F ?_ ?hf ?hE; (case F => k_asm); (case hf => exact fun _ => rfl); (case hE => assumption); k_whole)))

local macro_rules | `(tactic| walk_at "call builtin:len") => `(tactic| (k_here; (with_reducible show wpAny _ _ (call (Value.builtin "len") [Value.ref _]) _ _ _); k_dflt (refine' base_len ?k1 ?k2 ?k3 ?_; (case k1 => k_asm); (case k2 => assumption); (case k3 => assumption); k_whole)))
section
variable {prog : Program} {w : World} {A : Around} {E : Value → Shared → Prop} {s : Shared} {env : Env}
def IntEndH (h₀ : Heap) (L : Addr) (m : Str → Option Value) (news : List (Addr × Obj)) (P : Int → Prop) (s : Shared) (v : Value) (s' : Shared) : Prop := ∃ i t tk h', P i ∧ v = .int i t ∧ s' = { s with heap := h', toks := tk } ∧ Fr h₀ L h' m ∧ News h₀ L h' news
theorem IfExp_intH {h₀ : Heap} {L : Addr} {m : Str → Option Value} {news : List (Addr × Obj)} (P : Int → Prop) {test body orelse : PySem.Expr} {pos : Pos} {Q : Value → Shared → Prop} (F : Fr h₀ L s.heap m) (N : News h₀ L s.heap news)
    (h : wpAny (model prog w) A (isTrue test env (eval test env)) (fun c s₂ => if c then wpAny (model prog w) A (eval body env) (IntEndH h₀ L m news P s) E s₂ else wpAny (model prog w) A (eval orelse env) (IntEndH h₀ L m news P s) E s₂) E s)
    (k : ∀ i t tk h', P i → Fr h₀ L h' m → News h₀ L h' news → Q (.int i t) { s with heap := h', toks := tk }) :
    wpAny (model prog w) A (eval (.IfExp test body orelse pos) env) Q E s :=
  wpAny_mono (IfExp_ h) (fun v s' h' => by obtain ⟨i, t, tk, h2, hp, rfl, rfl, F', N'⟩ := h'; exact k i t tk h2 hp F' N') fun _ _ x => x
end
local macro_rules | `(tactic| walk_at "eval IfExp") => `(tactic| (refine' IfExp_intH (fun i => 24 ≤ i ∧ i ≤ 48) ?F ?N ?h ?k; (case F => k_asm); (case N => k_asm); rotate_left; (intro i' t' tk' h' hp' F' N'; (try k_sweep)); rotate_right))
local macro_rules | `(tactic| walk_at "IntEndH") => `(tactic| exact ⟨_, _, _, _, ⟨by omega, by omega⟩, rfl, rfl, by k_asm, by k_asm⟩)
local macro_rules | `(tactic| k_steps) => `(tactic| repeat' ((fail_if_success (with_reducible show wpAny _ _ (pyIter _) _ _ _)); (fail_if_success (with_reducible show wpAny _ _ (exec (Stmt.If _ _ _ _) _) _ _ _)); first | (k_unfold; (try dsimp only)) | (k_end; wrow_close) | walk1 | (dsimp only; walk1) | (leave1; walk_say "STEP leave1"; try dsimp only) | fail "no step"))

theorem main_ok {w : World} {pp : Program} {ll : List Str} {mean : ExcName → Option Value} {mg mb : Str → Option Value} {h₀ : Heap} {L fa : Addr} {C : CA} {a0 a1 : QA} {m : Str → Option Value} {s : Shared} {E : Value → Shared → Prop} {sc : Addr} {kp : List (Addr × Obj)} {ss : List Value} {is : List Int}
    (B : Below callerA h₀ [] h₀) (X : (hd.heap_39 w.params).In h₀) (T : Top pp ll mean mg mb h₀) (hnd : (tgt C a0 a1).Nodup) (hnd' : (tgt C a1 a0).Nodup)
    (ha : LamOK w pp ll mean mg mb a0.f a0.nk C.ls a0.kd a0.cst) (ha' : LamOK w pp ll mean mg mb a1.f a1.nk C.ls a1.kd a1.cst) (S : StOk h₀ L C false a0 a1 0 kp s.heap)
    (hsc : h₀.IsList sc ss.toArray) (hI : IntsAre ss is) (hss : ss.length ≤ 63)
    (hE : PassesOwn (model PySem.Challenge.rw_ah6005_01.row.prog w) (callerA.deeper (lawEnv w.params L fa)) (lawEnv w.params L fa) E)
    (F : Fr h₀ L s.heap (kstB m [(Str.ofString "queues", .ref C.lq), (Str.ofString "rows", .ref C.lr), (Str.ofString "pushed", .ref C.lp), (Str.ofString "script", .ref sc)])) :
    wpAny (model PySem.Challenge.rw_ah6005_01.row.prog w) (callerA.deeper (lawEnv w.params L fa)) (exec (headOf ((lawBody w.params).drop 8)) (lawEnv w.params L fa))
      (TailPost h₀ L C false a0 a1 48 [] sc s) E s := by
  have hft := fun i m s place tp kp S hi hpl => @turn_ok w pp ll mean mg mb h₀ L fa C a0 a1 i m s E place tp sc ss is kp B X T hnd hnd' ha ha' S hi hpl hsc hI hss
  revert X
  k_fill
  intro X
  obtain ⟨led, N, SL, -⟩ := S.toL0
  clear S
  dsimp only [kstB] at F
  have hfor := (rfl : headOf ((lawBody w.params).drop 8) = headOf ((lawBody w.params).drop 8))
  conv at hfor => rhs; whnf
  have hbody := (rfl : (forBody ((lawBody w.params).drop 8)) = (forBody ((lawBody w.params).drop 8)))
  conv at hbody => rhs; whnf
  have hcl := (rfl : cellsFrom (L + 1) (lawScope w.params).names [] = cellsFrom (L + 1) (lawScope w.params).names [])
  conv at hcl => rhs; whnf
  have hsc2 := (rfl : lawScope w.params = lawScope w.params)
  conv at hsc2 => rhs; whnf
  rw [hfor]; clear hfor
  dsimp only [lawEnv] at hE hft ⊢
  rw [hcl, hsc2] at hE hft ⊢
  clear hcl hsc2
  simp only [hbody] at hft
  clear hbody
  k_steps
  rename Fr _ _ _ _ => F9
  rename News _ _ _ _ => N9
  rename IsRange _ _ _ _ _ _ _ _ => R'
  rename _ ∧ _ => hn
  obtain ⟨hn1, hn2⟩ := hn
  rename Int => n
  with_unfolding_all refine range_loop (n := n.toNat) (fun i m₁ news₁ => StL L C false a0 a1 i news₁ ∧ Names C sc m₁) (by rfl) R' (small_one (by omega) (by omega) (by omega) (by omega)) (by rw [rangeSize_nat]; omega) F9 N9 ⟨SL, rfl, rfl, rfl, rfl⟩ ?_ ?_
  · rintro I i m₁ news₁ t h tk hi ⟨hS, hq, hr, hp, hs⟩ hoff F₁ N₁
    replace F₁ := Fr.seen [(Str.ofString "place", .int (0 + (i : Int)) t), (Str.ofString "queues", .ref C.lq), (Str.ofString "rows", .ref C.lr), (Str.ofString "pushed", .ref C.lp), (Str.ofString "script", .ref sc)] F₁ (List.forall_mem_cons.mpr ⟨rfl, List.forall_mem_cons.mpr ⟨hq, List.forall_mem_cons.mpr ⟨hr, List.forall_mem_cons.mpr ⟨hp, List.forall_mem_cons.mpr ⟨hs, List.forall_mem_nil _⟩⟩⟩⟩⟩)
    dsimp only [envX] at F₁ N₁
    have S2 := StL.toSt hS N₁ hoff
    refine wpAny_mono (hft i _ _ _ _ _ S2 (by omega) rfl F₁) (fun f s' q => ?_) (fun _ _ x => x)
    obtain ⟨rfl, h', tk', m', rfl, F', S', hn⟩ := q
    obtain ⟨led', N', ho, SL'⟩ := S'.toL
    exact ⟨h', tk', m', led', rfl, F', N', ho, SL', hn⟩
  · rintro m₁ news₁ h tk ⟨hS, hn⟩ F₁ N₁
    exact ⟨rfl, h, tk, m₁, rfl, F₁, StOk.add (ex := []) (hS.mono (by omega)) N₁ (fun _ h => nomatch h) (fun _ h => nomatch h), hn⟩
end Mine
theorem Mine.freshE8 : (0 : Nat) = 0 := by
  w_top off
  first | walk1 | rfl
namespace Mine



section
variable {prog : Program} {w : World} {A : Around} {E : Value → Shared → Prop} {s : Shared} {h₀ : Heap} {L l l2 : Addr} {news : List (Addr × Obj)} {us ws : List Value} {is : List Int} {n n2 : Nat} {Q : Value → Shared → Prop}
theorem ne_ints (N : News h₀ L s.heap news) (hl : (l, listOf us.toArray n) ∈ news) (hl2 : (l2, listOf ws.toArray n2) ∈ news) (h1 : IntsAre us is) (h2 : IntsAre ws is) (hu : A.units + 64 < cLine) (h : Q (.bool false) s) :
    wpAny (model prog w) A (compareOp .NotEq (.ref l) (.ref l2)) Q E s :=
  ke_ne_ints ⟨_, (N _ hl).1, rfl, n, rfl⟩ ⟨_, (N _ hl2).1, rfl, n2, rfl⟩ h1 h2 hu (by rw [decide_eq_true rfl]; exact h)
end
local macro_rules | `(tactic| k_mem) => `(tactic| assumption)
local macro_rules | `(tactic| k_units) => `(tactic| ktr_units)
local macro_rules | `(tactic| walk_at "subscriptTail") => `(tactic| (k_here; (with_reducible show wpAny _ _ (subscriptTail _ _ (Value.ref _) (Value.int _ _)) _ _ _); (with_unfolding_all refine' pair_item ?N ?m ?k ?_ ?s; (case N => k_asm); (case m => k_mem); (case k => assumption); (case s => with_unfolding_all rfl); k_whole)))
local macro_rules | `(tactic| walk_at "subscriptTail") => `(tactic| (k_here; (with_reducible show wpAny _ _ (subscriptTail _ _ (Value.ref _) (Value.int 0 _)) _ _ _); (with_unfolding_all refine' one_item ?N ?m ?_ ?s; (case N => k_asm); (case m => k_mem); (case s => with_unfolding_all rfl); k_whole)))
local macro_rules | `(tactic| walk_at "compareOp Eq ref ref") => `(tactic| (k_here; (with_reducible show wpAny _ _ (compareOp CmpOp.Eq (Value.ref _) (Value.ref _)) _ _ _); k_dflt (refine' eq_nil ?N ?l ?e ?u ?_; (case N => k_asm); (case l => k_mem); (case e => k_mem); (case u => first | ke_room | ktr_units); k_whole)))
local macro_rules | `(tactic| walk_at "compareOp NotEq ref ref") => `(tactic| (k_here; (with_reducible show wpAny _ _ (compareOp CmpOp.NotEq (Value.ref _) (Value.ref _)) _ _ _); k_dflt (refine' ne_nil ?N ?l ?e ?u ?_; (case N => k_asm); (case l => k_mem); (case e => k_mem); (case u => first | ke_room | ktr_units); k_whole)))
local macro_rules | `(tactic| k_ne) => `(tactic| first | assumption | exact Ne.symm (by assumption) | (refine neN ?_; (try dsimp only); omega))
local macro_rules | `(tactic| k_all) => `(tactic| first | assumption | exact List.forall_mem_nil _ | (refine' List.forall_mem_cons.mpr ⟨?a, ?b⟩; (case a => k_ne); (case b => k_all)))
local macro_rules | `(tactic| walk_at "setItem ref int") => `(tactic| (k_here; k_dflt (first | (refine' pair_setU ?F ?N ?k ?U ?_; (case F => k_asm); (case N => k_asm); (case k => assumption); (case U => k_upd)) | (refine' one_setU ?F ?N ?U ?_; (case F => k_asm); (case N => k_asm); (case U => k_upd))); intro h' F' N'; (try k_sweep)))
local macro_rules | `(tactic| walk_at "binaryOp Add ref ref") => `(tactic| (k_here; (with_reducible show wpAny _ _ (binaryOp _ (Value.ref _) (Value.ref _)) _ _ _); k_dflt (refine' led_add ?F ?N ?a ?b ?z ?_; (case F => k_asm); (case N => k_asm); (case a => k_mem); (case b => k_mem); (case z => ((simp only [List.length_cons, List.length_nil]); omega))); intro D' h' F' N' l1; (try k_lt l1); (try k_sweep)))
local macro_rules | `(tactic| walk_at "call ref") => `(tactic| (k_here; (try dsimp only [List.nil_append, List.cons_append]); (with_reducible show wpAny _ _ (call (Value.ref 35) [Value.ref _]) _ _ _); k_dflt (refine' ctr_use (ctr_bool ?p1 ?p2 ?p3 ?p4 ?p5) ?k1 ?k2 ?k3 ?k4 ?k5 ?kK ?kd ?ku ?_; (case k1 => k_asm); (case k2 => k_asm); (case k3 => k_asm); (case k4 => k_asm); (case k5 => k_asm); (case p1 => k_mem); (case p2 => k_mem); (case p3 => k_mem); (case p4 => assumption); (case p5 => assumption); (case kK => exact rfl); (case kd => k_room); (case ku => decide)); intro r9 news9 h' tk' F' N' hP; obtain ⟨e9, e8⟩ := hP; subst e9; subst e8; (try k_sweep)))

local macro_rules | `(tactic| walk_at "exec For") => `(tactic| (k_here; k_dflt (refine' For_turns ?F ?_ ?hf ?hE; (case F => k_asm); (case hf => exact fun _ => rfl); (case hE => assumption); k_whole)))

local macro_rules | `(tactic| walk_at "compareOp NotEq ref ref") => `(tactic| (k_here; (with_reducible show wpAny _ _ (compareOp CmpOp.NotEq (Value.ref _) (Value.ref _)) _ _ _); k_dflt (refine' ne_ints ?N ?l ?e ?i1 ?i2 ?u ?_; (case N => k_asm); (case l => k_mem); (case e => k_mem); (case i1 => assumption); (case i2 => assumption); (case u => first | ke_room | ktr_units); k_whole)))
local macro_rules | `(tactic| walk_at "compareOp NotEq ref ref") => `(tactic| (k_here; (with_reducible show wpAny _ _ (compareOp CmpOp.NotEq (Value.ref _) (Value.ref _)) _ _ _); k_dflt (refine' ne_nil ?N ?l ?e ?u ?_; (case N => k_asm); (case l => k_mem); (case e => k_mem); (case u => first | ke_room | ktr_units); k_whole)))
local macro_rules | `(tactic| k_steps) => `(tactic| repeat' ((fail_if_success (with_reducible show wpAny _ _ (call (Value.ref 84) _) _ _ _)); (fail_if_success (with_reducible show wpAny _ _ (call (Value.ref 91) _) _ _ _)); (fail_if_success (with_reducible show wpAny _ _ (exec (Stmt.While _ _ _ _) _) _ _ _)); (fail_if_success (with_reducible show KswEnd _ _ _ _ _ _ _ _ _ _ _ _)); first | (k_unfold; (try dsimp only)) | (k_end; wrow_close) | walk1 | (dsimp only; walk1) | (leave1; walk_say "STEP leave1"; try dsimp only) | fail "no step"))

/-- The state between two turns of the emptying loop. -/
def StN (L : Addr) (C : CA) (b : Bool) (a o : QA) (bd : Nat) (kp : List (Addr × Obj)) (n : Nat) (led : List (Addr × Obj)) : Prop :=
  ∃ x y sh ts c1 c2 c3 rest, led = lawLed C b a o x y sh ts c1 c2 c3 rest ∧ (∀ p ∈ kp, p ∈ rest) ∧ (∀ p ∈ rest, p.1 ∉ tgt C a o) ∧ CConst L C b a o rest ∧ QConst a rest ∧ QConst o rest ∧ QOk a x rest bd ∧ QOk o y rest bd ∧ x.rows.length = n

theorem empty_turn {w : World} {pp : Program} {ll : List Str} {mean : ExcName → Option Value} {mg mb : Str → Option Value} {h₀ : Heap} {L fa : Addr} {C : CA} {b : Bool} {a o : QA} {bd : Nat} {m : Str → Option Value} {s : Shared} {E : Value → Shared → Prop}
    {wv : Int} {tw : Tok} {sc : Addr} {kp : List (Addr × Obj)}
    (B : Below callerA h₀ [] h₀) (X : (hd.heap_39 w.params).In h₀) (T : Top pp ll mean mg mb h₀) (hnd : (tgt C a o).Nodup) (hwv : wv = ix b) (S : StOk h₀ L C b a o bd kp s.heap) (hbd : bd < 100)
    (hE : PassesOwn (model PySem.Challenge.rw_ah6005_01.row.prog w) (callerA.deeper (lawEnv w.params L fa)) (lawEnv w.params L fa) E)
    (F : Fr h₀ L s.heap (kstB m [(Str.ofString "which", .int wv tw), (Str.ofString "queues", .ref C.lq), (Str.ofString "rows", .ref C.lr), (Str.ofString "pushed", .ref C.lp), (Str.ofString "script", .ref sc)])) :
    wpAny (model PySem.Challenge.rw_ah6005_01.row.prog w) (callerA.deeper (lawEnv w.params L fa)) (execs (forBody ((lawBody w.params).drop 9)) (lawEnv w.params L fa))
      (TailPost h₀ L C b a o bd kp sc s) E s := by
  revert X
  k_fill
  intro X
  obtain ⟨x₀, y₀, sh, ts, c1, c2, c3, rest, N, hkp, hoff, cC, aC, oC, xOk, yOk⟩ := S
  obtain ⟨led, hled⟩ : ∃ led, led = lawLed C b a o x₀ y₀ sh ts c1 c2 c3 rest := ⟨_, rfl⟩
  have SN : StN L C b a o bd kp x₀.rows.length led := ⟨x₀, y₀, sh, ts, c1, c2, c3, rest, hled, hkp, hoff, cC, aC, oC, xOk, yOk, rfl⟩
  rw [← hled] at N
  clear hled hkp hoff cC aC oC xOk yOk
  dsimp only [kstB] at F
  have hbody := (rfl : (forBody ((lawBody w.params).drop 9)) = (forBody ((lawBody w.params).drop 9)))
  conv at hbody => rhs; whnf
  have hcl := (rfl : cellsFrom (L + 1) (lawScope w.params).names [] = cellsFrom (L + 1) (lawScope w.params).names [])
  conv at hcl => rhs; whnf
  have hsc2 := (rfl : lawScope w.params = lawScope w.params)
  conv at hsc2 => rhs; whnf
  rw [hbody]; clear hbody
  dsimp only [lawEnv] at hE ⊢
  rw [hcl, hsc2] at hE ⊢; clear hcl hsc2
  have hnd2 := hnd
  simp only [tgt, List.nodup_cons, List.mem_cons, List.not_mem_nil, or_false, not_or, List.nodup_nil, and_true, not_false_eq_true] at hnd2
  obtain ⟨⟨d1, d2, d3, d4, d5, d6⟩, ⟨d7, d8, d9, d10, d11⟩, ⟨d12, d13, d14, d15⟩, ⟨d16, d17, d18⟩, ⟨d19, d20⟩, d21⟩ := hnd2
  k_steps
  refine ksw_while (σ := List (Addr × Obj) × Nat) (fun c => c.1) (fun _ => [(Str.ofString "which", .int wv tw), (Str.ofString "queues", .ref C.lq), (Str.ofString "rows", .ref C.lr), (Str.ofString "pushed", .ref C.lp), (Str.ofString "script", .ref sc)]) (fun _ => True) [Str.ofString "left"] (fun c => StN L C b a o bd kp c.2 c.1) (fun c => c.2) (led, x₀.rows.length) F N True.intro ?_ SN ?_ hE
  · exact List.forall_mem_cons.mpr ⟨rfl, List.forall_mem_cons.mpr ⟨rfl, List.forall_mem_cons.mpr ⟨rfl, List.forall_mem_cons.mpr ⟨rfl, List.forall_mem_cons.mpr ⟨rfl, List.forall_mem_nil _⟩⟩⟩⟩⟩
  clear SN N F
  rintro ⟨led, n⟩ u h tk - ⟨x, y, sh, ts, c1, c2, c3, rest, rfl, hkp, hoff, cC, ⟨aq, ad, af, acst, acstI, ak0, ak4⟩, oC, xOk, yOk, hn⟩ F N
  dsimp only [kstB, lawLed] at F N hn
  have clq := cC.lq
  have cln := cC.ln
  have cck := cC.cn
  have cdn := cC.dn
  have xhr := xOk.hr
  have xhp := xOk.hp
  have xns := xOk.ns
  have xps := xOk.ps
  have xvs := xOk.vs
  have hxl : (isort x.rows).length < 1000 := by rw [isort_length]; have := xOk.rb; omega
  have hiff : isort x.rows = [] ↔ x.us = [] := by
    rw [← List.length_eq_zero_iff, ← List.length_eq_zero_iff, isort_length, xOk.us.length]
  k_steps
  · -- a row is taken
    have hu0 : x.us ≠ [] := by assumption
    have hr0 : x.rows ≠ [] := fun e => hu0 (List.eq_nil_of_length_eq_zero (by rw [xOk.us.length, e]; rfl))
    have hsd := isort_due x.rows hr0
    obtain ⟨v0, vs0, hv0⟩ : ∃ v0 vs0, x.vs = v0 :: vs0 := by
      cases hv : x.vs with
      | nil => have := xvs.length; rw [hv, hsd] at this; simp at this
      | cons v0 vs0 => exact ⟨v0, vs0, rfl⟩
    have hvl : (v0 :: vs0).length < 1000 := by rw [← hv0, xvs.length]; exact hxl
    rename News _ _ _ _ => N9
    rename _ < _ ∧ _ => l1
    rw [hv0] at N9 xvs
    rw [hsd] at xvs
    have N10 := kst_newsOf N9 reorgT
    have e3 : ∀ p ∈ rest, p.1 ≠ a.rr := fun p hp e => hoff p hp (by rw [e]; simp [tgt])
    k_dflt (refine' ctr_use (ctr_taken (r := x.rows.getD (due x.rows) default) (rs := x.rows) ?p1 ?p2 ?p3 (xvs.mono tail7) hvl ?p4 (xOk.us.mono tail7) ?p5 hr0 rfl) ?k1 ?k2 ?k3 ?k4 ?k5 ?kK ?kd ?ku ?_; (case k1 => exact B); (case k2 => k_asm); (case k3 => k_asm); (case k4 => exact N10); (case k5 => exact T); (case kK => exact rfl); (case kd => k_room); (case ku => decide); (case p1 => k_mem); (case p2 => k_mem); (case p4 => k_mem); (case p5 => (have := xOk.rb; omega)))
    case p3 =>
      exact List.forall_mem_cons.mpr ⟨Nat.ne_of_gt l1.2.1, List.forall_mem_cons.mpr ⟨d1, List.forall_mem_cons.mpr ⟨Ne.symm d7, List.forall_mem_cons.mpr ⟨Ne.symm d8, List.forall_mem_cons.mpr ⟨Ne.symm d9, List.forall_mem_cons.mpr ⟨Ne.symm d10, List.forall_mem_cons.mpr ⟨Ne.symm d11, e3⟩⟩⟩⟩⟩⟩⟩
    rintro r9 news9 h9 tk9 F9 N11 ⟨l2, n1, n2, rfl, hsub9, hne2, hfr⟩
    have N12 := kst_newsOf N11 hsub9
    clear N9 N10 N11 hsub9
    simp only [List.forall_mem_cons] at hfr
    obtain ⟨f1, f2, f3, f4, f5, f6, f7, f8⟩ := hfr
    have e1 : ∀ p ∈ rest, p.1 ≠ C.lr := fun p hp e => hoff p hp (by rw [e]; simp [tgt])
    have g1 : l2 ≠ C.lr := Nat.ne_of_gt f5
    (try k_sweep)
    k_steps
    rename Fr _ _ _ _ => F9
    rename News _ _ _ _ => N9
    have N13 := kst_newsOf N9 reorgT2
    have hsb : ∀ p ∈ rest, p ∈ (l2, listOf (x.us.take (due x.rows) ++ x.us.drop (due x.rows + 1)).toArray n1) :: rest := fun p hp => List.Mem.tail _ hp
    have hdl := due_lt hr0
    have hlen : (x.rows.take (due x.rows) ++ x.rows.drop (due x.rows + 1)).length = x.rows.length - 1 := by
      rw [List.length_append, List.length_take, List.length_drop]
      omega
    refine ksw_end (_, (x.rows.take (due x.rows) ++ x.rows.drop (due x.rows + 1)).length) F9 N13 (fun p hp => hp) trivial (List.forall_mem_cons.mpr ⟨rfl, List.forall_mem_cons.mpr ⟨rfl, List.forall_mem_cons.mpr ⟨rfl, List.forall_mem_cons.mpr ⟨rfl, List.forall_mem_cons.mpr ⟨rfl, List.forall_mem_nil _⟩⟩⟩⟩⟩) (by ksw_same)
      ⟨⟨l2, x.p, _, x.ns, x.us.take (due x.rows) ++ x.us.drop (due x.rows + 1), x.ps, _, _, _, x.n4, x.rows.take (due x.rows) ++ x.rows.drop (due x.rows + 1), x.pushed⟩, y, sh, ts, _, _, _, _, rfl, (fun p hp => hsb _ (hkp p hp)), (List.forall_mem_cons.mpr ⟨notin_tgt f2 (by omega) f3 f4 f5 f6 f7, hoff⟩),
        cC.mono hsb, (QConst.mono ⟨aq, ad, af, acst, acstI, ak0, ak4⟩ hsb), (oC.mono hsb), ⟨xvs.2.mono hsb, ((xOk.us.take _).append (xOk.us.drop _)).mono hsb, xns, xps, List.Mem.head _, hsb _ xhp, ?_, xOk.pb⟩, (yOk.mono hsb (Nat.le_refl _)), rfl⟩ ?_
    · show (x.rows.take (due x.rows) ++ x.rows.drop (due x.rows + 1)).length ≤ bd
      have := xOk.rb
      omega
    · show (x.rows.take (due x.rows) ++ x.rows.drop (due x.rows + 1)).length < n
      have := List.length_pos_iff.mpr hr0
      omega
  · exact absurd (hiff.mp (Classical.not_not.mp (by assumption))) (by assumption)
  · have hu0 : x.us = [] := Classical.not_not.mp (by assumption)
    exact absurd (hiff.mpr hu0) (by assumption)
  · have hu0 : x.us = [] := Classical.not_not.mp (by assumption)
    have hr0 : x.rows = [] := List.eq_nil_of_length_eq_zero (by rw [← xOk.us.length, hu0]; rfl)
    have hv0 : x.vs = [] := List.eq_nil_of_length_eq_zero (by rw [xvs.length, hr0]; rfl)
    rename Fr _ _ _ _ => F9
    rename News _ _ _ _ => N9
    rw [hv0] at N9
    k_dflt (refine' ctrT_use (ctr_refused ?p1 ?p2 ?p3) ?k1 ?k2 ?k3 ?k4 ?k5 ?k6 ?k7 ?kK ?kd ?ku ?_; (case k1 => exact B); (case k2 => k_asm); (case k3 => k_asm); (case k4 => exact N9); (case k5 => exact T); (case k6 => exact X); (case k7 => exact T); (case kK => exact rfl); (case kd => k_room); (case ku => decide); (case p1 => k_mem); (case p2 => k_mem); (case p3 => k_mem))
    rintro r9 news9 h9 tk9 F9 N9 ⟨rfl, rfl⟩
    k_steps
    rename Fr _ _ _ _ => F9
    rename News _ _ _ _ => N9
    have xOk2 : QOk a ⟨x.r, x.p, [], x.ns, x.us, x.ps, x.n1, x.n2, x.n3, x.n4, x.rows, x.pushed⟩ rest bd := ⟨hv0 ▸ xOk.vs, xOk.us, xOk.ns, xOk.ps, xOk.hr, xOk.hp, xOk.rb, xOk.pb⟩
    exact ⟨rfl, _, _, _, rfl, F9, ⟨_, y, sh, ts, c1, c2, c3, rest, (fun p hp => N9 p (List.Mem.tail _ hp)), hkp, hoff, cC, ⟨aq, ad, af, acst, acstI, ak0, ak4⟩, oC, xOk2, yOk⟩, rfl, rfl, rfl, rfl⟩
end Mine
theorem Mine.freshE9 : (0 : Nat) = 0 := by
  w_top off
  first | walk1 | rfl
namespace Mine


local macro_rules | `(tactic| k_mem) => `(tactic| assumption)
local macro_rules | `(tactic| k_units) => `(tactic| ktr_units)
local macro_rules | `(tactic| walk_at "subscriptTail") => `(tactic| (k_here; (with_reducible show wpAny _ _ (subscriptTail _ _ (Value.ref _) (Value.int _ _)) _ _ _); (with_unfolding_all refine' pair_item ?N ?m ?k ?_ ?s; (case N => k_asm); (case m => k_mem); (case k => assumption); (case s => with_unfolding_all rfl); k_whole)))
local macro_rules | `(tactic| walk_at "subscriptTail") => `(tactic| (k_here; (with_reducible show wpAny _ _ (subscriptTail _ _ (Value.ref _) (Value.int 0 _)) _ _ _); (with_unfolding_all refine' one_item ?N ?m ?_ ?s; (case N => k_asm); (case m => k_mem); (case s => with_unfolding_all rfl); k_whole)))
local macro_rules | `(tactic| walk_at "compareOp Eq ref ref") => `(tactic| (k_here; (with_reducible show wpAny _ _ (compareOp CmpOp.Eq (Value.ref _) (Value.ref _)) _ _ _); k_dflt (refine' eq_nil ?N ?l ?e ?u ?_; (case N => k_asm); (case l => k_mem); (case e => k_mem); (case u => first | ke_room | ktr_units); k_whole)))
local macro_rules | `(tactic| walk_at "compareOp NotEq ref ref") => `(tactic| (k_here; (with_reducible show wpAny _ _ (compareOp CmpOp.NotEq (Value.ref _) (Value.ref _)) _ _ _); k_dflt (refine' ne_nil ?N ?l ?e ?u ?_; (case N => k_asm); (case l => k_mem); (case e => k_mem); (case u => first | ke_room | ktr_units); k_whole)))
local macro_rules | `(tactic| k_ne) => `(tactic| first | assumption | exact Ne.symm (by assumption) | (refine neN ?_; (try dsimp only); omega))
local macro_rules | `(tactic| k_all) => `(tactic| first | assumption | exact List.forall_mem_nil _ | (refine' List.forall_mem_cons.mpr ⟨?a, ?b⟩; (case a => k_ne); (case b => k_all)))
local macro_rules | `(tactic| walk_at "setItem ref int") => `(tactic| (k_here; k_dflt (first | (refine' pair_setU ?F ?N ?k ?U ?_; (case F => k_asm); (case N => k_asm); (case k => assumption); (case U => k_upd)) | (refine' one_setU ?F ?N ?U ?_; (case F => k_asm); (case N => k_asm); (case U => k_upd))); intro h' F' N'; (try k_sweep)))
local macro_rules | `(tactic| walk_at "binaryOp Add ref ref") => `(tactic| (k_here; (with_reducible show wpAny _ _ (binaryOp _ (Value.ref _) (Value.ref _)) _ _ _); k_dflt (refine' led_add ?F ?N ?a ?b ?z ?_; (case F => k_asm); (case N => k_asm); (case a => k_mem); (case b => k_mem); (case z => ((simp only [List.length_cons, List.length_nil]); omega))); intro D' h' F' N' l1; (try k_lt l1); (try k_sweep)))
local macro_rules | `(tactic| walk_at "call ref") => `(tactic| (k_here; (try dsimp only [List.nil_append, List.cons_append]); (with_reducible show wpAny _ _ (call (Value.ref 35) [Value.ref _]) _ _ _); k_dflt (refine' ctr_use (ctr_bool ?p1 ?p2 ?p3 ?p4 ?p5) ?k1 ?k2 ?k3 ?k4 ?k5 ?kK ?kd ?ku ?_; (case k1 => k_asm); (case k2 => k_asm); (case k3 => k_asm); (case k4 => k_asm); (case k5 => k_asm); (case p1 => k_mem); (case p2 => k_mem); (case p3 => k_mem); (case p4 => assumption); (case p5 => assumption); (case kK => exact rfl); (case kd => k_room); (case ku => decide)); intro r9 news9 h' tk' F' N' hP; obtain ⟨e9, e8⟩ := hP; subst e9; subst e8; (try k_sweep)))

local macro_rules | `(tactic| walk_at "exec For") => `(tactic| (k_here; k_dflt (refine' For_turns ?F ?_ ?hf ?hE; (case F => k_asm); (case hf => exact fun _ => rfl); (case hE => assumption); k_whole)))
local macro_rules | `(tactic| k_steps) => `(tactic| repeat' ((fail_if_success (with_reducible show wpAny _ _ (pyIter _) _ _ _)); (fail_if_success (with_reducible show wpAny _ _ (execs (Stmt.While _ _ _ _ :: _) _) _ _ _)); first | (k_unfold; (try dsimp only)) | (k_end; wrow_close) | walk1 | (dsimp only; walk1) | (leave1; walk_say "STEP leave1"; try dsimp only) | fail "no step"))

theorem last_ok {w : World} {pp : Program} {ll : List Str} {mean : ExcName → Option Value} {mg mb : Str → Option Value} {h₀ : Heap} {L fa : Addr} {C : CA} {a0 a1 : QA} {m : Str → Option Value} {s : Shared} {E : Value → Shared → Prop} {sc : Addr} {kp : List (Addr × Obj)}
    (B : Below callerA h₀ [] h₀) (X : (hd.heap_39 w.params).In h₀) (T : Top pp ll mean mg mb h₀) (hnd : (tgt C a0 a1).Nodup) (hnd' : (tgt C a1 a0).Nodup) (S : StOk h₀ L C false a0 a1 48 kp s.heap)
    (hE : PassesOwn (model PySem.Challenge.rw_ah6005_01.row.prog w) (callerA.deeper (lawEnv w.params L fa)) (lawEnv w.params L fa) E)
    (F : Fr h₀ L s.heap (kstB m [(Str.ofString "queues", .ref C.lq), (Str.ofString "rows", .ref C.lr), (Str.ofString "pushed", .ref C.lp), (Str.ofString "script", .ref sc)])) :
    wpAny (model PySem.Challenge.rw_ah6005_01.row.prog w) (callerA.deeper (lawEnv w.params L fa)) (exec (headOf ((lawBody w.params).drop 9)) (lawEnv w.params L fa))
      (TailPost h₀ L C false a0 a1 48 [] sc s) E s := by
  have hft := fun b a o m s wv tw kp hwv S F hnd => @empty_turn w pp ll mean mg mb h₀ L fa C b a o 48 m s E wv tw sc kp B X T hnd hwv S (by decide) hE F
  revert X
  k_fill
  intro X
  obtain ⟨led, N, SL, -⟩ := S.toL0
  clear S
  dsimp only [kstB] at F
  have hfor := (rfl : headOf ((lawBody w.params).drop 9) = headOf ((lawBody w.params).drop 9))
  conv at hfor => rhs; whnf
  have hbody := (rfl : (forBody ((lawBody w.params).drop 9)) = (forBody ((lawBody w.params).drop 9)))
  conv at hbody => rhs; whnf
  have hcl := (rfl : cellsFrom (L + 1) (lawScope w.params).names [] = cellsFrom (L + 1) (lawScope w.params).names [])
  conv at hcl => rhs; whnf
  have hsc2 := (rfl : lawScope w.params = lawScope w.params)
  conv at hsc2 => rhs; whnf
  rw [hfor]; clear hfor
  dsimp only [lawEnv] at hE hft ⊢
  rw [hcl, hsc2] at hE hft ⊢
  clear hcl hsc2
  simp only [hbody] at hft
  clear hbody
  k_steps
  rename Fr _ _ _ _ => F9
  rename News _ _ _ _ => N9
  rename ∀ p ∈ led, _ => l1
  have S1 := StOk.add (ex := [_]) (kp := [_]) SL N9 (fun p hp q hq => by rw [List.mem_singleton.mp hp]; exact Nat.ne_of_lt (l1 q hq)) (fun p hp => .inl hp)
  obtain ⟨led2, N2, SL2, hk2⟩ := S1.toL0
  have hax := hk2 _ (List.Mem.head _)
  clear S1 N9 SL l1 hk2
  refine pair_loop (fun k m n => StL L C false a0 a1 48 n ∧ Names C sc m) (by rfl) F9 N2 hax.1 rfl rfl ⟨SL2, rfl, rfl, rfl, rfl⟩ ?_ ?_
  · rintro I it b t m₁ news₁ h tk ⟨hS, hq, hr, hp, hs⟩ hit hoff hax₁ F₁ N₁
    replace F₁ := Fr.seen [(Str.ofString "queues", .ref C.lq), (Str.ofString "rows", .ref C.lr), (Str.ofString "pushed", .ref C.lp), (Str.ofString "script", .ref sc)] F₁ (List.forall_mem_cons.mpr ⟨hq, List.forall_mem_cons.mpr ⟨hr, List.forall_mem_cons.mpr ⟨hp, List.forall_mem_cons.mpr ⟨hs, List.forall_mem_nil _⟩⟩⟩⟩)
    have NI := hS.notIts hoff
    dsimp only [kstB, envX] at F₁ N₁
    clear F9 N2 SL2
    k_steps
    rename Fr _ _ _ _ => F9
    rename News _ _ _ _ => N9
    have S2 := StOk.add (ex := [(I, it)]) (kp := [(I, it), (_, _)]) hS N9 (fun p hp q hq => by rw [List.mem_singleton.mp hp]; exact hoff q hq) (fun p hp => by
      rcases List.mem_cons.mp hp with rfl | hp
      · exact .inl (List.Mem.head _)
      · rw [List.mem_singleton.mp hp]; exact .inr ⟨hax₁, hax.2⟩)
    have G9 := Fr.seen (m := _) [(Str.ofString "which", .int _ _), (Str.ofString "queues", .ref C.lq), (Str.ofString "rows", .ref C.lr), (Str.ofString "pushed", .ref C.lp), (Str.ofString "script", .ref sc)] F9
      (List.forall_mem_cons.mpr ⟨rfl, List.forall_mem_cons.mpr ⟨rfl, List.forall_mem_cons.mpr ⟨rfl, List.forall_mem_cons.mpr ⟨rfl, List.forall_mem_cons.mpr ⟨rfl, List.forall_mem_nil _⟩⟩⟩⟩⟩)
    cases b
    · exact wpAny_mono (hft false a0 a1 _ _ _ _ _ rfl S2 G9 hnd) (fun f s' q => pair_end (fun _ _ => rfl) hit (tI2 (by decide)) NI q) (fun _ _ x => x)
    · exact wpAny_mono (hft true a1 a0 _ _ _ _ _ rfl S2.swap G9 hnd') (fun f s' q => pair_end (fun _ _ => rfl) hit (tI2 (by decide)) NI q.swap) (fun _ _ x => x)
  · rintro m₁ news₁ h tk ⟨hS, hn⟩ F₁ N₁
    exact ⟨rfl, h, tk, m₁, rfl, F₁, StOk.add (ex := []) hS N₁ (fun _ h => nomatch h) (fun _ h => nomatch h), hn⟩
end Mine
theorem Mine.freshE10 : (0 : Nat) = 0 := by
  w_top off
  first | walk1 | rfl
namespace Mine



theorem drop_cons (l : List Stmt) (n : Nat) (h : l.drop n ≠ []) : l.drop n = headOf (l.drop n) :: l.drop (n + 1) := by
  have e : l.drop (n + 1) = (l.drop n).tail := by rw [List.tail_drop]
  rw [e]
  cases q : l.drop n with
  | nil => exact absurd q h
  | cons x r => rfl
theorem law_drop (P : Params) : (lawBody P).drop 7 = headOf ((lawBody P).drop 7) :: headOf ((lawBody P).drop 8) :: headOf ((lawBody P).drop 9) :: (lawBody P).drop 10 := by
  have h : ∀ n, (lawBody P).drop n = (lawBody P).drop n := fun _ => rfl
  have h7 := h 7; have h8 := h 8; have h9 := h 9
  conv at h7 => rhs; whnf
  conv at h8 => rhs; whnf
  conv at h9 => rhs; whnf
  rw [← drop_cons _ 9 (by rw [h9]; exact List.cons_ne_nil _ _), ← drop_cons _ 8 (by rw [h8]; exact List.cons_ne_nil _ _), ← drop_cons _ 7 (by rw [h7]; exact List.cons_ne_nil _ _)]
theorem law_rest {w : World} {pp : Program} {ll : List Str} {mean : ExcName → Option Value} {mg mb : Str → Option Value} {h₀ : Heap} {L fa : Addr} {C : CA} {a0 a1 : QA} {m : Str → Option Value} {s : Shared} {E : Value → Shared → Prop} {sc : Addr} {kp : List (Addr × Obj)} {ss : List Value} {is : List Int} {Q : Flow → Shared → Prop}
    (B : Below callerA h₀ [] h₀) (X : (hd.heap_39 w.params).In h₀) (T : Top pp ll mean mg mb h₀) (hnd : (tgt C a0 a1).Nodup) (hnd' : (tgt C a1 a0).Nodup)
    (ha : LamOK w pp ll mean mg mb a0.f a0.nk C.ls a0.kd a0.cst) (ha' : LamOK w pp ll mean mg mb a1.f a1.nk C.ls a1.kd a1.cst) (S : StOk h₀ L C false a0 a1 0 kp s.heap)
    (hsc : h₀.IsList sc ss.toArray) (hI : IntsAre ss is) (hss : ss.length ≤ 63)
    (hE : PassesOwn (model PySem.Challenge.rw_ah6005_01.row.prog w) (callerA.deeper (lawEnv w.params L fa)) (lawEnv w.params L fa) E)
    (F : Fr h₀ L s.heap (kstB m [(Str.ofString "queues", .ref C.lq), (Str.ofString "rows", .ref C.lr), (Str.ofString "pushed", .ref C.lp), (Str.ofString "script", .ref sc)]))
    (hret : ∀ h' tk m' news', Fr h₀ L h' m' → News h₀ L h' news' → (∀ p ∈ a0.cst, p ∈ news') → Q (.ret (.bool true)) { s with heap := h', toks := tk }) :
    wpAny (model PySem.Challenge.rw_ah6005_01.row.prog w) (callerA.deeper (lawEnv w.params L fa)) (execs ((lawBody w.params).drop 7) (lawEnv w.params L fa)) Q E s := by
  have seen : ∀ {h : Heap} {m' : Str → Option Value}, Fr h₀ L h m' → Names C sc m' → Fr h₀ L h (kstB m' [(Str.ofString "queues", .ref C.lq), (Str.ofString "rows", .ref C.lr), (Str.ofString "pushed", .ref C.lp), (Str.ofString "script", .ref sc)]) := fun F ⟨hq, hr, hp, hs⟩ =>
    Fr.seen _ F (List.forall_mem_cons.mpr ⟨hq, List.forall_mem_cons.mpr ⟨hr, List.forall_mem_cons.mpr ⟨hp, List.forall_mem_cons.mpr ⟨hs, List.forall_mem_nil _⟩⟩⟩⟩)
  rw [law_drop]
  refine wpAny_execs_cons (wpAny_mono (first_ok B X T S hE F) (fun f s' q => ?_) (fun _ _ x => x))
  obtain ⟨rfl, h1, tk1, m1, rfl, F1, S1, hn1⟩ := q
  refine wpAny_execs_cons (wpAny_mono (main_ok B X T hnd hnd' ha ha' S1 hsc hI hss hE (seen F1 hn1)) (fun f s' q => ?_) (fun _ _ x => x))
  obtain ⟨rfl, h2, tk2, m2, rfl, F2, S2, hn2⟩ := q
  refine wpAny_execs_cons (wpAny_mono (last_ok B X T hnd hnd' S2 hE (seen F2 hn2)) (fun f s' q => ?_) (fun _ _ x => x))
  obtain ⟨rfl, h3, tk3, m3, rfl, F3, S3, hn3⟩ := q
  have hN : ∃ led, News h₀ L h3 led ∧ ∀ p ∈ a0.cst, p ∈ led := by
    obtain ⟨x, y, sh, ts, c1, c2, c3, rest, N, -, -, -, aC, -⟩ := S3
    exact ⟨_, N, fun p hp => tail7 _ (aC.cst p hp)⟩
  obtain ⟨led, N3, hc3⟩ := hN
  dsimp only
  revert X
  k_fill
  intro X
  have hbody := (rfl : ((lawBody w.params).drop 10) = ((lawBody w.params).drop 10))
  conv at hbody => rhs; whnf
  have hcl := (rfl : cellsFrom (L + 1) (lawScope w.params).names [] = cellsFrom (L + 1) (lawScope w.params).names [])
  conv at hcl => rhs; whnf
  have hsc2 := (rfl : lawScope w.params = lawScope w.params)
  conv at hsc2 => rhs; whnf
  rw [hbody]; clear hbody
  dsimp only [lawEnv] at hE ⊢
  rw [hcl, hsc2] at hE ⊢
  clear hcl hsc2
  have F4 := seen F3 hn3
  clear F F1 F2 F3 S S1 S2 S3
  k_steps
  exact hret _ _ _ led (by k_asm) (by k_asm) hc3
end Mine
theorem Mine.freshE11 : (0 : Nat) = 0 := by
  w_top off
  first | walk1 | rfl
namespace Mine



local macro_rules | `(tactic| k_mem) => `(tactic| assumption)
local macro_rules | `(tactic| k_units) => `(tactic| ktr_units)
local macro_rules | `(tactic| walk_at "subscriptTail") => `(tactic| (k_here; (with_reducible show wpAny _ _ (subscriptTail _ _ (Value.ref _) (Value.int 0 _)) _ _ _); (with_unfolding_all refine' one_item ?N ?m ?_ ?s; (case N => k_asm); (case m => first | k_mem | exact List.Mem.tail _ (by k_mem)); (case s => with_unfolding_all rfl); k_whole)))
local macro_rules | `(tactic| walk_at "call builtin:list.append") => `(tactic| (k_here; k_dflt (refine' append_in (own := []) ?F ?N ?o ?r ?_ ?z; (case F => k_asm); (case N => k_asm); (case o => exact fun _ h => nomatch h); (case r => assumption); (case z => (rw [sizeLine_eq]; omega))); intro h' F' N'; (try dsimp only [List.nil_append] at N'); (try k_sweep)))
local macro_rules | `(tactic| k_steps) => `(tactic| repeat' ((fail_if_success (with_reducible show wpAny _ _ (call (Value.ref 63) _) _ _ _)); first | (k_unfold; (try dsimp only)) | (k_end; wrow_close) | walk1 | (dsimp only; walk1) | (leave1; walk_say "STEP leave1"; try dsimp only) | fail "no step"))

theorem ctr_noted {w : World} {pp : Program} {ll : List Str} {mean : ExcName → Option Value} {mg mb : Str → Option Value} {nk ls : Addr} {c n : Nat} {ns : List Value} {rest : List (Addr × Obj)} {k v sh : Int} {t u ts : Tok} (h0 : 0 ≤ k) (h4 : k < 4)
    (hlen : ns.length < 1000) (hls : (ls, listOf [Value.int sh ts].toArray c) ∈ rest) (hoff : ∀ p ∈ rest, p.1 ≠ nk) :
    Ctr w pp ll mean mg mb 4 (.ref 70) [.ref nk, .ref ls, .int k t, .int v u] ((nk, listOf ns.toArray n) :: rest) (fun r news' => ∃ n', KeyPost (decide (k = 3)) (keyOf k (v + sh)) ((nk, listOf (ns ++ [Value.int v u]).toArray n') :: rest) r news') := by
  unfold Ctr
  k_fill
  intro dp un gd cn cs a ccd cl outer A₀ base h₀ L m s Q E B F X N T hk hd hu hret
  refine wpAny_call ?_
  k_dflt ktr_enter
  k_steps
  k_dflt (refine' ctr_use (ctr_key h0 h4) ?k1 ?k2 ?k3 ?k4 ?k5 ?kK ?kd ?ku ?_; (case k1 => k_asm); (case k2 => k_asm); (case k3 => k_asm); (case k4 => k_asm); (case k5 => k_asm); (case kK => exact rfl); (case kd => ktr_room); (case ku => ktr_units))
  rintro kv news9 h9 tk9 F9 N9 ⟨ex, rfl, hkv, hx⟩
  k_steps
  exact hret _ _ _ _ (by k_asm) (by k_asm) ⟨n + 1, ex, rfl, hkv, hx⟩

def lamAt : List Stmt → Bool → Option (Arguments × PySem.Expr × Scope)
  | .Assign _ (.List [.Call _ _ [⟨_, .Lambda p1 b1 s1 _, _⟩] _, .Call _ [.Lambda p2 b2 s2 _] _ _] _) _ :: _, b => if b then some (p2, b2, s2) else some (p1, b1, s1)
  | _, _ => none
noncomputable def lamP (P : Params) (b : Bool) : Arguments := match lamAt ((lawBody P).drop 4) b with
  | some (p, _, _) => p
  | none => ⟨[], [], none, [], [], none, []⟩
noncomputable def lamB (P : Params) (b : Bool) : PySem.Expr := match lamAt ((lawBody P).drop 4) b with
  | some (_, e, _) => e
  | none => .Name (Str.ofString "x") default
noncomputable def lamS (P : Params) (b : Bool) : Scope := match lamAt ((lawBody P).drop 4) b with
  | some (_, _, s) => s
  | none => { kind := .function, names := [], isGenerator := false, isCoroutine := false }
end Mine
theorem Mine.freshE12 : (0 : Nat) = 0 := by
  w_top off
  first | walk1 | rfl
namespace Mine



local macro_rules | `(tactic| k_mem) => `(tactic| assumption)
local macro_rules | `(tactic| k_units) => `(tactic| ktr_units)
local macro_rules | `(tactic| walk_at "subscriptTail") => `(tactic| (k_here; (with_reducible show wpAny _ _ (subscriptTail _ _ (Value.ref _) (Value.int _ _)) _ _ _); (with_unfolding_all refine' pair_item ?N ?m ?k ?_ ?s; (case N => k_asm); (case m => k_mem); (case k => assumption); (case s => with_unfolding_all rfl); k_whole)))
local macro_rules | `(tactic| walk_at "subscriptTail") => `(tactic| (k_here; (with_reducible show wpAny _ _ (subscriptTail _ _ (Value.ref _) (Value.int 0 _)) _ _ _); (with_unfolding_all refine' one_item ?N ?m ?_ ?s; (case N => k_asm); (case m => k_mem); (case s => with_unfolding_all rfl); k_whole)))
local macro_rules | `(tactic| walk_at "eval Name") => `(tactic| (k_here; k_dflt (refine' nameX_F ?N ?l ?m ?d ?_ ?a1 ?a2 ?a3 ?a4; (case a2 => exact rfl); (case N => assumption); (case l => exact rfl); (case m => exact List.Mem.tail _ (by assumption)); (case d => assumption); (case a1 => exact rfl); (case a3 => exact rfl); (case a4 => exact rfl); k_whole)))
local macro_rules | `(tactic| walk_at "subscriptTail") => `(tactic| (k_here; (with_reducible show wpAny _ _ (subscriptTail _ _ (Value.ref _) (Value.int _ _)) _ _ _); (with_unfolding_all refine' pair_item ?N ?m ?k ?_ ?s; (case N => assumption); (case m => exact List.Mem.tail _ (by assumption)); (case k => exact rfl); (case s => with_unfolding_all rfl); k_whole)))
local macro_rules | `(tactic| k_steps) => `(tactic| repeat' ((fail_if_success (with_reducible show wpAny _ _ (call (Value.ref 70) _) _ _ _)); first | (k_unfold; (try dsimp only)) | (k_end; wrow_close) | walk1 | (dsimp only; walk1) | (leave1; walk_say "STEP leave1"; try dsimp only) | fail "no step"))

theorem lam_ok0 {w : World} {pp : Program} {ll : List Str} {mean : ExcName → Option Value} {mg mb : Str → Option Value} {L f c' ln lk ls n0 n1 : Addr} {k0 k1 : Int} {t0 t1 t : Tok} {nm qual : Str} {pm ctv : Value} {oc ok on os : Obj} {vs : Array Value} {cst : List (Addr × Obj)}
    (hf : (f, kla_obj nm qual (lamP w.params false) (lamB w.params false) (lamS w.params false) [(Str.ofString "shift", L + 1 + 1 + 1), (Str.ofString "notes", L + 1 + 1), (Str.ofString "kinds", L + 1)] pm c' ctv) ∈ cst)
    (hc : (c', oc) ∈ cst) (d1 : oc.data = .fields vs) (d2 : vs[1]? = some (.str qual t))
    (hck : (L + 1, ok) ∈ cst) (hcn : (L + 1 + 1, on) ∈ cst) (hcs : (L + 1 + 1 + 1, os) ∈ cst) (dk : ok.data = .cell (some (.ref lk))) (dn : on.data = .cell (some (.ref ln))) (ds : os.data = .cell (some (.ref ls)))
    (hln : (ln, listOf (pair2 false (Value.ref n0) (.ref n1)).toArray 0) ∈ cst) (hlk : (lk, listOf (pair2 false (Value.int k0 t0) (.int k1 t1)).toArray 0) ∈ cst) (h0 : 0 ≤ k0) (h4 : k0 < 4) :
    LamOK w pp ll mean mg mb f n0 ls k0 cst := by
  intro v u sh ts c n ns rest hlen hsub hls hoff
  replace hf := hsub _ hf; replace hc := hsub _ hc; replace hck := hsub _ hck; replace hcn := hsub _ hcn; replace hcs := hsub _ hcs
  replace hln := hsub _ hln; replace hlk := hsub _ hlk
  clear hsub
  have hP := (rfl : lamP w.params false = lamP w.params false)
  conv at hP => rhs; whnf
  have hB := (rfl : lamB w.params false = lamB w.params false)
  conv at hB => rhs; whnf
  have hS := (rfl : lamS w.params false = lamS w.params false)
  conv at hS => rhs; whnf
  rw [hP, hB, hS] at hf
  clear hP hB hS
  unfold Ctr
  k_fill
  intro dp un gd cn cs a ccd cl outer A₀ base h₀ L' m s Q E B F X N T hk hd hu hret
  refine wpAny_call ?_
  refine kla_code B F X N T rfl rfl hk (List.Mem.tail _ hf) ⟨c', oc, vs, t, rfl, (N _ (List.Mem.tail _ hc)).1, d1, d2⟩ (by show dp < recursionLimit; omega) rfl (by exact locs rfl) ?_ rfl rfl rfl (by decide)
  intro g' L2 h1 FG' F' N' B' X' T'
  dsimp only [List.filterMap, List.nil_append] at F'
  k_steps
  k_dflt (refine' ctr_use (ctr_noted h0 h4 hlen hls hoff) ?k1 ?k2 ?k3 ?k4 ?k5 ?kK ?kd ?ku ?_; (case k1 => k_asm); (case k2 => k_asm); (case k3 => k_asm); (case k4 => k_asm); (case k5 => k_asm); (case kK => exact rfl); (case kd => ktr_room); (case ku => ktr_units))
  rintro kv news9 h9 tk9 F9 N9 hP
  exact ⟨_, _, _, F9, N9, fun F N => hret _ _ _ _ F N hP⟩
theorem lam_ok1 {w : World} {pp : Program} {ll : List Str} {mean : ExcName → Option Value} {mg mb : Str → Option Value} {L f c' ln lk ls n0 n1 : Addr} {k0 k1 : Int} {t0 t1 t : Tok} {nm qual : Str} {pm ctv : Value} {oc ok on os : Obj} {vs : Array Value} {cst : List (Addr × Obj)}
    (hf : (f, kla_obj nm qual (lamP w.params true) (lamB w.params true) (lamS w.params true) [(Str.ofString "shift", L + 1 + 1 + 1), (Str.ofString "notes", L + 1 + 1), (Str.ofString "kinds", L + 1)] pm c' ctv) ∈ cst)
    (hc : (c', oc) ∈ cst) (d1 : oc.data = .fields vs) (d2 : vs[1]? = some (.str qual t))
    (hck : (L + 1, ok) ∈ cst) (hcn : (L + 1 + 1, on) ∈ cst) (hcs : (L + 1 + 1 + 1, os) ∈ cst) (dk : ok.data = .cell (some (.ref lk))) (dn : on.data = .cell (some (.ref ln))) (ds : os.data = .cell (some (.ref ls)))
    (hln : (ln, listOf (pair2 true (Value.ref n0) (.ref n1)).toArray 0) ∈ cst) (hlk : (lk, listOf (pair2 true (Value.int k0 t0) (.int k1 t1)).toArray 0) ∈ cst) (h0 : 0 ≤ k0) (h4 : k0 < 4) :
    LamOK w pp ll mean mg mb f n0 ls k0 cst := by
  intro v u sh ts c n ns rest hlen hsub hls hoff
  replace hf := hsub _ hf; replace hc := hsub _ hc; replace hck := hsub _ hck; replace hcn := hsub _ hcn; replace hcs := hsub _ hcs
  replace hln := hsub _ hln; replace hlk := hsub _ hlk
  clear hsub
  have hP := (rfl : lamP w.params true = lamP w.params true)
  conv at hP => rhs; whnf
  have hB := (rfl : lamB w.params true = lamB w.params true)
  conv at hB => rhs; whnf
  have hS := (rfl : lamS w.params true = lamS w.params true)
  conv at hS => rhs; whnf
  rw [hP, hB, hS] at hf
  clear hP hB hS
  unfold Ctr
  k_fill
  intro dp un gd cn cs a ccd cl outer A₀ base h₀ L' m s Q E B F X N T hk hd hu hret
  refine wpAny_call ?_
  refine kla_code B F X N T rfl rfl hk (List.Mem.tail _ hf) ⟨c', oc, vs, t, rfl, (N _ (List.Mem.tail _ hc)).1, d1, d2⟩ (by show dp < recursionLimit; omega) rfl (by exact locs rfl) ?_ rfl rfl rfl (by decide)
  intro g' L2 h1 FG' F' N' B' X' T'
  dsimp only [List.filterMap, List.nil_append] at F'
  k_steps
  k_dflt (refine' ctr_use (ctr_noted h0 h4 hlen hls hoff) ?k1 ?k2 ?k3 ?k4 ?k5 ?kK ?kd ?ku ?_; (case k1 => k_asm); (case k2 => k_asm); (case k3 => k_asm); (case k4 => k_asm); (case k5 => k_asm); (case kK => exact rfl); (case kd => ktr_room); (case ku => ktr_units))
  rintro kv news9 h9 tk9 F9 N9 hP
  exact ⟨_, _, _, F9, N9, fun F N => hret _ _ _ _ F N hP⟩
end Mine
theorem Mine.freshE13 : (0 : Nat) = 0 := by
  w_top off
  first | walk1 | rfl
namespace Mine



theorem code_notIt {o : Obj} {vs : Array Value} {q : Str} {t : Tok} (h1 : o.data = .fields vs) (h2 : vs[1]? = some (.str q t)) : ∀ i j, o ≠ itR i j := fun i j e => by
  subst e
  simp only [itR, Data.fields.injEq] at h1
  subst h1
  simp [rawInt] at h2
theorem news_one {h₀ h : Heap} {L : Addr} {p : Addr × Obj} {news : List (Addr × Obj)} (N : News h₀ L h news) (hm : p ∈ news) : News h₀ L h [p] := kst_newsOf N fun q hq => by
  rw [List.mem_singleton.mp hq]; exact hm
theorem notin7 {x a b c d e f g : Addr} (h1 : x ≠ a) (h2 : x ≠ b) (h3 : x ≠ c) (h4 : x ≠ d) (h5 : x ≠ e) (h6 : x ≠ f) (h7 : x ≠ g) : x ∉ [a, b, c, d, e, f, g] := by
  simp only [List.mem_cons, List.not_mem_nil, or_false, not_or]
  exact ⟨h1, h2, h3, h4, h5, h6, h7⟩
theorem law_final {w : World} {pp : Program} {ll : List Str} {mean : ExcName → Option Value} {mg mb : Str → Option Value} {h₀ : Heap} {L fa : Addr} {m : Str → Option Value} {s : Shared} {E : Value → Shared → Prop} {sc : Addr} {ss : List Value} {is : List Int} {Q : Flow → Shared → Prop}
    {lp p1 p0 lr r1 r0 lq D1 rr1 q1 d1 f1 c1 D0 rr0 q0 d0 f0 c0 ln n1 n0 ls lk : Addr} {oD1 oD0 oc1 oc0 ok on os : Obj} {tps : Array Value} {hx0 hy0 hx1 hy1 k0 k1 : Int} {ta0 tb0 ta1 tb1 tk0 tk1 ts u0 u1 : Tok} {nm0 nm1 qual0 qual1 : Str} {pm0 pm1 ct0 ct1 : Value} {vs0 vs1 : Array Value} {P0 P1 : Arguments} {B0 B1 : PySem.Expr} {S0 S1 : Scope} {body : List Stmt} {Sc : Scope}
    (N : News h₀ L s.heap [(lp, listOf [Value.ref p0, .ref p1].toArray 0), (p1, listOf (List.toArray []) 0), (p0, listOf (List.toArray []) 0), (lr, listOf [Value.ref r0, .ref r1].toArray 0), (r1, listOf (List.toArray []) 0), (r0, listOf (List.toArray []) 0), (lq, listOf [Value.ref q0, .ref q1].toArray 0), (D1, oD1), (rr1, listOf (List.toArray []) 0), (q1, instObj 52 d1), (d1, qDict hx1 hy1 ta1 tb1 (.ref f1) rr1), (f1, kla_obj nm1 qual1 P1 B1 S1 [(Str.ofString "shift", L + 1 + 1 + 1), (Str.ofString "notes", L + 1 + 1), (Str.ofString "kinds", L + 1)] pm1 c1 ct1), (c1, oc1), (D0, oD0), (rr0, listOf (List.toArray []) 0), (q0, instObj 52 d0), (d0, qDict hx0 hy0 ta0 tb0 (.ref f0) rr0), (f0, kla_obj nm0 qual0 P0 B0 S0 [(Str.ofString "shift", L + 1 + 1 + 1), (Str.ofString "notes", L + 1 + 1), (Str.ofString "kinds", L + 1)] pm0 c0 ct0), (c0, oc0), (ln, listOf [Value.ref n0, .ref n1].toArray 0), (n1, listOf (List.toArray []) 0), (n0, listOf (List.toArray []) 0), (ls, listOf [Value.int 0 ts].toArray 0), (lk, listOf [Value.int k0 tk0, .int k1 tk1].toArray 0), (L + 1 + 1 + 1, os), (L + 1 + 1, on), (L + 1, ok), (93, tabObj tps)]) (F : Fr h₀ L s.heap m)
    (B : Below callerA h₀ [] h₀) (X : (hd.heap_39 w.params).In h₀) (T : Top pp ll mean mg mb h₀)
    (hq : m (Str.ofString "queues") = some (.ref lq)) (hr : m (Str.ofString "rows") = some (.ref lr)) (hp : m (Str.ofString "pushed") = some (.ref lp)) (hs : m (Str.ofString "script") = some (.ref sc))
    (hsc : h₀.IsList sc ss.toArray) (hI : IntsAre ss is) (hss : is.length ≤ 63)
    (e0 : oc0.data = .fields vs0) (g0 : vs0[1]? = some (.str qual0 u0)) (e1 : oc1.data = .fields vs1) (g1 : vs1[1]? = some (.str qual1 u1))
    (dk : ok.data = .cell (some (.ref lk))) (dn : on.data = .cell (some (.ref ln))) (ds : os.data = .cell (some (.ref ls)))
    (z0 : 0 ≤ k0) (y0 : k0 < 4) (z1 : 0 ≤ k1) (y1 : k1 < 4)
    (o0 : @LT.lt Nat _ (p1) lp) (o1 : @LT.lt Nat _ (p0) p1) (o2 : @LT.lt Nat _ (lr) p0) (o3 : @LT.lt Nat _ (r1) lr) (o4 : @LT.lt Nat _ (r0) r1) (o5 : @LT.lt Nat _ (lq) r0) (o6 : @LT.lt Nat _ (D1) lq) (o7 : @LT.lt Nat _ (rr1) D1) (o8 : @LT.lt Nat _ (q1) rr1) (o9 : @LT.lt Nat _ (d1) q1) (o10 : @LT.lt Nat _ (f1) d1) (o11 : @LT.lt Nat _ (c1) f1) (o12 : @LT.lt Nat _ (D0) c1) (o13 : @LT.lt Nat _ (rr0) D0) (o14 : @LT.lt Nat _ (q0) rr0) (o15 : @LT.lt Nat _ (d0) q0) (o16 : @LT.lt Nat _ (f0) d0) (o17 : @LT.lt Nat _ (c0) f0) (o18 : @LT.lt Nat _ (ln) c0) (o19 : @LT.lt Nat _ (n1) ln) (o20 : @LT.lt Nat _ (n0) n1) (o21 : @LT.lt Nat _ (ls) n0) (o22 : @LT.lt Nat _ (lk) ls) (o23 : @LT.lt Nat _ (L + 1 + 1 + 1) lk) (o93' : @LT.lt Nat _ 93 lk)
    (eb : body = (lawBody w.params).drop 7) (ee : Sc = lawScope w.params)
    (eP0 : P0 = lamP w.params false) (eB0 : B0 = lamB w.params false) (eS0 : S0 = lamS w.params false) (eP1 : P1 = lamP w.params true) (eB1 : B1 = lamB w.params true) (eS1 : S1 = lamS w.params true)
    (hE : PassesOwn (model PySem.Challenge.rw_ah6005_01.row.prog w) (callerA.deeper (envOfC (Str.ofString "law") Sc L fa (Value.ref 97))) (envOfC (Str.ofString "law") Sc L fa (Value.ref 97)) E)
    (hret : ∀ h' tk m' news', Fr h₀ L h' m' → News h₀ L h' [(93, tabObj tps)] → News h₀ L h' news' → Q (.ret (.bool true)) { s with heap := h', toks := tk }) :
    wpAny (model PySem.Challenge.rw_ah6005_01.row.prog w) (callerA.deeper (envOfC (Str.ofString "law") Sc L fa (Value.ref 97))) (execs body (envOfC (Str.ofString "law") Sc L fa (Value.ref 97))) Q E s := by
  subst eb ee
  have elaw : envOfC (Str.ofString "law") (lawScope w.params) L fa (Value.ref 97) = lawEnv w.params L fa := rfl
  rw [elaw] at hE ⊢
  have hss' : ss.length ≤ 63 := by rw [hI.length]; exact hss
  have x1 : @LT.lt Nat _ (L + 1 + 1) (L + 1 + 1 + 1) := Nat.lt_succ_self _
  have x2 : @LT.lt Nat _ (L + 1) (L + 1 + 1) := Nat.lt_succ_self _
  refine law_rest (C := (⟨lq, ln, lk, lr, lp, ls, ok, on, os⟩ : CA)) (a0 := (⟨q0, d0, rr0, f0, n0, hx0, hy0, ta0, tb0, tk0, k0, .type "function", none, kla_fn nm0 qual0 P0 B0 S0 [(Str.ofString "shift", L + 1 + 1 + 1), (Str.ofString "notes", L + 1 + 1), (Str.ofString "kinds", L + 1)] pm0 (.ref c0) ct0, #[], [(f0, kla_obj nm0 qual0 P0 B0 S0 [(Str.ofString "shift", L + 1 + 1 + 1), (Str.ofString "notes", L + 1 + 1), (Str.ofString "kinds", L + 1)] pm0 c0 ct0), (c0, oc0), (L + 1 + 1 + 1, os), (L + 1 + 1, on), (L + 1, ok), (ln, listOf [Value.ref n0, .ref n1].toArray 0), (lk, listOf [Value.int k0 tk0, .int k1 tk1].toArray 0), (93, tabObj tps)]⟩ : QA)) (a1 := (⟨q1, d1, rr1, f1, n1, hx1, hy1, ta1, tb1, tk1, k1, .type "function", none, kla_fn nm1 qual1 P1 B1 S1 [(Str.ofString "shift", L + 1 + 1 + 1), (Str.ofString "notes", L + 1 + 1), (Str.ofString "kinds", L + 1)] pm1 (.ref c1) ct1, #[], [(f1, kla_obj nm1 qual1 P1 B1 S1 [(Str.ofString "shift", L + 1 + 1 + 1), (Str.ofString "notes", L + 1 + 1), (Str.ofString "kinds", L + 1)] pm1 c1 ct1), (c1, oc1), (L + 1 + 1 + 1, os), (L + 1 + 1, on), (L + 1, ok), (ln, listOf [Value.ref n0, .ref n1].toArray 0), (lk, listOf [Value.int k0 tk0, .int k1 tk1].toArray 0), (93, tabObj tps)]⟩ : QA)) (kp := []) (m := m) (sc := sc) B X T (by simp only [tgt, List.nodup_cons, List.mem_cons, List.not_mem_nil, or_false, not_or, List.nodup_nil, and_true, not_false_eq_true]; exact ⟨⟨Nat.ne_of_lt (by omega), Nat.ne_of_lt (by omega), Nat.ne_of_lt (by omega), Nat.ne_of_lt (by omega), Nat.ne_of_lt (by omega), Nat.ne_of_gt (by omega)⟩, ⟨Nat.ne_of_gt (by omega), Nat.ne_of_lt (by omega), Nat.ne_of_lt (by omega), Nat.ne_of_lt (by omega), Nat.ne_of_gt (by omega)⟩, ⟨Nat.ne_of_lt (by omega), Nat.ne_of_lt (by omega), Nat.ne_of_lt (by omega), Nat.ne_of_gt (by omega)⟩, ⟨Nat.ne_of_lt (by omega), Nat.ne_of_lt (by omega), Nat.ne_of_gt (by omega)⟩, ⟨Nat.ne_of_lt (by omega), Nat.ne_of_gt (by omega)⟩, Nat.ne_of_gt (by omega)⟩) (by simp only [tgt, List.nodup_cons, List.mem_cons, List.not_mem_nil, or_false, not_or, List.nodup_nil, and_true, not_false_eq_true]; exact ⟨⟨Nat.ne_of_lt (by omega), Nat.ne_of_gt (by omega), Nat.ne_of_lt (by omega), Nat.ne_of_lt (by omega), Nat.ne_of_lt (by omega), Nat.ne_of_gt (by omega)⟩, ⟨Nat.ne_of_gt (by omega), Nat.ne_of_gt (by omega), Nat.ne_of_lt (by omega), Nat.ne_of_lt (by omega), Nat.ne_of_gt (by omega)⟩, ⟨Nat.ne_of_lt (by omega), Nat.ne_of_lt (by omega), Nat.ne_of_lt (by omega), Nat.ne_of_gt (by omega)⟩, ⟨Nat.ne_of_lt (by omega), Nat.ne_of_lt (by omega), Nat.ne_of_gt (by omega)⟩, ⟨Nat.ne_of_lt (by omega), Nat.ne_of_gt (by omega)⟩, Nat.ne_of_gt (by omega)⟩) ?l0 ?l1 ?S hsc hI hss' hE
    (Fr.seen _ F (List.forall_mem_cons.mpr ⟨hq, List.forall_mem_cons.mpr ⟨hr, List.forall_mem_cons.mpr ⟨hp, List.forall_mem_cons.mpr ⟨hs, List.forall_mem_nil _⟩⟩⟩⟩)) (fun h' tk m' news' F' N' hc => hret h' tk m' news' F' (news_one N' (hc _ (List.Mem.tail _ (List.Mem.tail _ (List.Mem.tail _ (List.Mem.tail _ (List.Mem.tail _ (List.Mem.tail _ (List.Mem.tail _ (List.Mem.head _)))))))))) N')
  case l0 => exact (by subst eP0 eB0 eS0; exact lam_ok0 (n1 := n1) (k1 := k1) (t0 := tk0) (t1 := tk1) (List.Mem.head _) (List.Mem.tail _ (List.Mem.head _)) e0 g0 (List.Mem.tail _ (List.Mem.tail _ (List.Mem.tail _ (List.Mem.tail _ (List.Mem.head _))))) (List.Mem.tail _ (List.Mem.tail _ (List.Mem.tail _ (List.Mem.head _)))) (List.Mem.tail _ (List.Mem.tail _ (List.Mem.head _))) dk dn ds (List.Mem.tail _ (List.Mem.tail _ (List.Mem.tail _ (List.Mem.tail _ (List.Mem.tail _ (List.Mem.head _)))))) (List.Mem.tail _ (List.Mem.tail _ (List.Mem.tail _ (List.Mem.tail _ (List.Mem.tail _ (List.Mem.tail _ (List.Mem.head _))))))) z0 y0)
  case l1 => exact (by subst eP1 eB1 eS1; exact lam_ok1 (n1 := n0) (k1 := k0) (t0 := tk1) (t1 := tk0) (List.Mem.head _) (List.Mem.tail _ (List.Mem.head _)) e1 g1 (List.Mem.tail _ (List.Mem.tail _ (List.Mem.tail _ (List.Mem.tail _ (List.Mem.head _))))) (List.Mem.tail _ (List.Mem.tail _ (List.Mem.tail _ (List.Mem.head _)))) (List.Mem.tail _ (List.Mem.tail _ (List.Mem.head _))) dk dn ds (List.Mem.tail _ (List.Mem.tail _ (List.Mem.tail _ (List.Mem.tail _ (List.Mem.tail _ (List.Mem.head _)))))) (List.Mem.tail _ (List.Mem.tail _ (List.Mem.tail _ (List.Mem.tail _ (List.Mem.tail _ (List.Mem.tail _ (List.Mem.head _))))))) z1 y1)
  case S =>
    refine ⟨(⟨r0, p0, [], [], [], [], 0, 0, 0, 0, [], []⟩ : QS), (⟨r1, p1, [], [], [], [], 0, 0, 0, 0, [], []⟩ : QS), 0, ts, 0, 0, 0, [(p1, listOf (List.toArray []) 0), (p0, listOf (List.toArray []) 0), (r1, listOf (List.toArray []) 0), (r0, listOf (List.toArray []) 0), (lq, listOf [Value.ref q0, .ref q1].toArray 0), (D1, oD1), (q1, instObj 52 d1), (d1, qDict hx1 hy1 ta1 tb1 (.ref f1) rr1), (f1, kla_obj nm1 qual1 P1 B1 S1 [(Str.ofString "shift", L + 1 + 1 + 1), (Str.ofString "notes", L + 1 + 1), (Str.ofString "kinds", L + 1)] pm1 c1 ct1), (c1, oc1), (D0, oD0), (q0, instObj 52 d0), (d0, qDict hx0 hy0 ta0 tb0 (.ref f0) rr0), (f0, kla_obj nm0 qual0 P0 B0 S0 [(Str.ofString "shift", L + 1 + 1 + 1), (Str.ofString "notes", L + 1 + 1), (Str.ofString "kinds", L + 1)] pm0 c0 ct0), (c0, oc0), (ln, listOf [Value.ref n0, .ref n1].toArray 0), (lk, listOf [Value.int k0 tk0, .int k1 tk1].toArray 0), (L + 1 + 1 + 1, os), (L + 1 + 1, on), (L + 1, ok), (93, tabObj tps)], kst_newsOf N ?_, (fun _ h => nomatch h), ?_, ?_, ?_, ?_, ⟨True.intro, True.intro, .nil, .nil, (List.Mem.tail _ (List.Mem.tail _ (List.Mem.tail _ (List.Mem.head _)))), (List.Mem.tail _ (List.Mem.head _)), Nat.le_refl _, Nat.le_refl _⟩, ⟨True.intro, True.intro, .nil, .nil, (List.Mem.tail _ (List.Mem.tail _ (List.Mem.head _))), (List.Mem.head _), Nat.le_refl _, Nat.le_refl _⟩⟩
    · exact List.forall_mem_cons.mpr ⟨((List.Mem.tail _ (List.Mem.tail _ (List.Mem.tail _ (List.Mem.tail _ (List.Mem.tail _ (List.Mem.tail _ (List.Mem.tail _ (List.Mem.tail _ (List.Mem.tail _ (List.Mem.tail _ (List.Mem.tail _ (List.Mem.tail _ (List.Mem.tail _ (List.Mem.tail _ (List.Mem.tail _ (List.Mem.tail _ (List.Mem.tail _ (List.Mem.tail _ (List.Mem.tail _ (List.Mem.tail _ (List.Mem.tail _ (List.Mem.head _))))))))))))))))))))))), List.forall_mem_cons.mpr ⟨((List.Mem.tail _ (List.Mem.tail _ (List.Mem.tail _ (List.Mem.tail _ (List.Mem.tail _ (List.Mem.tail _ (List.Mem.tail _ (List.Mem.tail _ (List.Mem.tail _ (List.Mem.tail _ (List.Mem.tail _ (List.Mem.tail _ (List.Mem.tail _ (List.Mem.tail _ (List.Mem.head _)))))))))))))))), List.forall_mem_cons.mpr ⟨((List.Mem.tail _ (List.Mem.tail _ (List.Mem.tail _ (List.Mem.tail _ (List.Mem.tail _ (List.Mem.tail _ (List.Mem.tail _ (List.Mem.tail _ (List.Mem.tail _ (List.Mem.tail _ (List.Mem.tail _ (List.Mem.tail _ (List.Mem.tail _ (List.Mem.tail _ (List.Mem.tail _ (List.Mem.tail _ (List.Mem.tail _ (List.Mem.tail _ (List.Mem.tail _ (List.Mem.tail _ (List.Mem.head _)))))))))))))))))))))), List.forall_mem_cons.mpr ⟨((List.Mem.tail _ (List.Mem.tail _ (List.Mem.tail _ (List.Mem.tail _ (List.Mem.tail _ (List.Mem.tail _ (List.Mem.tail _ (List.Mem.tail _ (List.Mem.head _)))))))))), List.forall_mem_cons.mpr ⟨((List.Mem.tail _ (List.Mem.tail _ (List.Mem.tail _ (List.Mem.head _))))), List.forall_mem_cons.mpr ⟨((List.Mem.head _)), List.forall_mem_cons.mpr ⟨((List.Mem.tail _ (List.Mem.tail _ (List.Mem.tail _ (List.Mem.tail _ (List.Mem.tail _ (List.Mem.tail _ (List.Mem.tail _ (List.Mem.tail _ (List.Mem.tail _ (List.Mem.tail _ (List.Mem.tail _ (List.Mem.tail _ (List.Mem.tail _ (List.Mem.tail _ (List.Mem.tail _ (List.Mem.tail _ (List.Mem.tail _ (List.Mem.tail _ (List.Mem.tail _ (List.Mem.tail _ (List.Mem.tail _ (List.Mem.tail _ (List.Mem.head _)))))))))))))))))))))))), List.forall_mem_cons.mpr ⟨((List.Mem.tail _ (List.Mem.head _))), List.forall_mem_cons.mpr ⟨((List.Mem.tail _ (List.Mem.tail _ (List.Mem.head _)))), List.forall_mem_cons.mpr ⟨((List.Mem.tail _ (List.Mem.tail _ (List.Mem.tail _ (List.Mem.tail _ (List.Mem.head _)))))), List.forall_mem_cons.mpr ⟨((List.Mem.tail _ (List.Mem.tail _ (List.Mem.tail _ (List.Mem.tail _ (List.Mem.tail _ (List.Mem.head _))))))), List.forall_mem_cons.mpr ⟨((List.Mem.tail _ (List.Mem.tail _ (List.Mem.tail _ (List.Mem.tail _ (List.Mem.tail _ (List.Mem.tail _ (List.Mem.head _)))))))), List.forall_mem_cons.mpr ⟨((List.Mem.tail _ (List.Mem.tail _ (List.Mem.tail _ (List.Mem.tail _ (List.Mem.tail _ (List.Mem.tail _ (List.Mem.tail _ (List.Mem.head _))))))))), List.forall_mem_cons.mpr ⟨((List.Mem.tail _ (List.Mem.tail _ (List.Mem.tail _ (List.Mem.tail _ (List.Mem.tail _ (List.Mem.tail _ (List.Mem.tail _ (List.Mem.tail _ (List.Mem.tail _ (List.Mem.head _))))))))))), List.forall_mem_cons.mpr ⟨((List.Mem.tail _ (List.Mem.tail _ (List.Mem.tail _ (List.Mem.tail _ (List.Mem.tail _ (List.Mem.tail _ (List.Mem.tail _ (List.Mem.tail _ (List.Mem.tail _ (List.Mem.tail _ (List.Mem.head _)))))))))))), List.forall_mem_cons.mpr ⟨((List.Mem.tail _ (List.Mem.tail _ (List.Mem.tail _ (List.Mem.tail _ (List.Mem.tail _ (List.Mem.tail _ (List.Mem.tail _ (List.Mem.tail _ (List.Mem.tail _ (List.Mem.tail _ (List.Mem.tail _ (List.Mem.head _))))))))))))), List.forall_mem_cons.mpr ⟨((List.Mem.tail _ (List.Mem.tail _ (List.Mem.tail _ (List.Mem.tail _ (List.Mem.tail _ (List.Mem.tail _ (List.Mem.tail _ (List.Mem.tail _ (List.Mem.tail _ (List.Mem.tail _ (List.Mem.tail _ (List.Mem.tail _ (List.Mem.head _)))))))))))))), List.forall_mem_cons.mpr ⟨((List.Mem.tail _ (List.Mem.tail _ (List.Mem.tail _ (List.Mem.tail _ (List.Mem.tail _ (List.Mem.tail _ (List.Mem.tail _ (List.Mem.tail _ (List.Mem.tail _ (List.Mem.tail _ (List.Mem.tail _ (List.Mem.tail _ (List.Mem.tail _ (List.Mem.head _))))))))))))))), List.forall_mem_cons.mpr ⟨((List.Mem.tail _ (List.Mem.tail _ (List.Mem.tail _ (List.Mem.tail _ (List.Mem.tail _ (List.Mem.tail _ (List.Mem.tail _ (List.Mem.tail _ (List.Mem.tail _ (List.Mem.tail _ (List.Mem.tail _ (List.Mem.tail _ (List.Mem.tail _ (List.Mem.tail _ (List.Mem.tail _ (List.Mem.head _))))))))))))))))), List.forall_mem_cons.mpr ⟨((List.Mem.tail _ (List.Mem.tail _ (List.Mem.tail _ (List.Mem.tail _ (List.Mem.tail _ (List.Mem.tail _ (List.Mem.tail _ (List.Mem.tail _ (List.Mem.tail _ (List.Mem.tail _ (List.Mem.tail _ (List.Mem.tail _ (List.Mem.tail _ (List.Mem.tail _ (List.Mem.tail _ (List.Mem.tail _ (List.Mem.head _)))))))))))))))))), List.forall_mem_cons.mpr ⟨((List.Mem.tail _ (List.Mem.tail _ (List.Mem.tail _ (List.Mem.tail _ (List.Mem.tail _ (List.Mem.tail _ (List.Mem.tail _ (List.Mem.tail _ (List.Mem.tail _ (List.Mem.tail _ (List.Mem.tail _ (List.Mem.tail _ (List.Mem.tail _ (List.Mem.tail _ (List.Mem.tail _ (List.Mem.tail _ (List.Mem.tail _ (List.Mem.head _))))))))))))))))))), List.forall_mem_cons.mpr ⟨((List.Mem.tail _ (List.Mem.tail _ (List.Mem.tail _ (List.Mem.tail _ (List.Mem.tail _ (List.Mem.tail _ (List.Mem.tail _ (List.Mem.tail _ (List.Mem.tail _ (List.Mem.tail _ (List.Mem.tail _ (List.Mem.tail _ (List.Mem.tail _ (List.Mem.tail _ (List.Mem.tail _ (List.Mem.tail _ (List.Mem.tail _ (List.Mem.tail _ (List.Mem.head _)))))))))))))))))))), List.forall_mem_cons.mpr ⟨((List.Mem.tail _ (List.Mem.tail _ (List.Mem.tail _ (List.Mem.tail _ (List.Mem.tail _ (List.Mem.tail _ (List.Mem.tail _ (List.Mem.tail _ (List.Mem.tail _ (List.Mem.tail _ (List.Mem.tail _ (List.Mem.tail _ (List.Mem.tail _ (List.Mem.tail _ (List.Mem.tail _ (List.Mem.tail _ (List.Mem.tail _ (List.Mem.tail _ (List.Mem.tail _ (List.Mem.head _))))))))))))))))))))), List.forall_mem_cons.mpr ⟨((List.Mem.tail _ (List.Mem.tail _ (List.Mem.tail _ (List.Mem.tail _ (List.Mem.tail _ (List.Mem.tail _ (List.Mem.tail _ (List.Mem.tail _ (List.Mem.tail _ (List.Mem.tail _ (List.Mem.tail _ (List.Mem.tail _ (List.Mem.tail _ (List.Mem.tail _ (List.Mem.tail _ (List.Mem.tail _ (List.Mem.tail _ (List.Mem.tail _ (List.Mem.tail _ (List.Mem.tail _ (List.Mem.tail _ (List.Mem.tail _ (List.Mem.tail _ (List.Mem.head _))))))))))))))))))))))))), List.forall_mem_cons.mpr ⟨((List.Mem.tail _ (List.Mem.tail _ (List.Mem.tail _ (List.Mem.tail _ (List.Mem.tail _ (List.Mem.tail _ (List.Mem.tail _ (List.Mem.tail _ (List.Mem.tail _ (List.Mem.tail _ (List.Mem.tail _ (List.Mem.tail _ (List.Mem.tail _ (List.Mem.tail _ (List.Mem.tail _ (List.Mem.tail _ (List.Mem.tail _ (List.Mem.tail _ (List.Mem.tail _ (List.Mem.tail _ (List.Mem.tail _ (List.Mem.tail _ (List.Mem.tail _ (List.Mem.tail _ (List.Mem.head _)))))))))))))))))))))))))), List.forall_mem_cons.mpr ⟨((List.Mem.tail _ (List.Mem.tail _ (List.Mem.tail _ (List.Mem.tail _ (List.Mem.tail _ (List.Mem.tail _ (List.Mem.tail _ (List.Mem.tail _ (List.Mem.tail _ (List.Mem.tail _ (List.Mem.tail _ (List.Mem.tail _ (List.Mem.tail _ (List.Mem.tail _ (List.Mem.tail _ (List.Mem.tail _ (List.Mem.tail _ (List.Mem.tail _ (List.Mem.tail _ (List.Mem.tail _ (List.Mem.tail _ (List.Mem.tail _ (List.Mem.tail _ (List.Mem.tail _ (List.Mem.tail _ (List.Mem.head _))))))))))))))))))))))))))), List.forall_mem_cons.mpr ⟨((List.Mem.tail _ (List.Mem.tail _ (List.Mem.tail _ (List.Mem.tail _ (List.Mem.tail _ (List.Mem.tail _ (List.Mem.tail _ (List.Mem.tail _ (List.Mem.tail _ (List.Mem.tail _ (List.Mem.tail _ (List.Mem.tail _ (List.Mem.tail _ (List.Mem.tail _ (List.Mem.tail _ (List.Mem.tail _ (List.Mem.tail _ (List.Mem.tail _ (List.Mem.tail _ (List.Mem.tail _ (List.Mem.tail _ (List.Mem.tail _ (List.Mem.tail _ (List.Mem.tail _ (List.Mem.tail _ (List.Mem.tail _ (List.Mem.head _)))))))))))))))))))))))))))), List.forall_mem_cons.mpr ⟨((List.Mem.tail _ (List.Mem.tail _ (List.Mem.tail _ (List.Mem.tail _ (List.Mem.tail _ (List.Mem.tail _ (List.Mem.tail _ (List.Mem.tail _ (List.Mem.tail _ (List.Mem.tail _ (List.Mem.tail _ (List.Mem.tail _ (List.Mem.tail _ (List.Mem.tail _ (List.Mem.tail _ (List.Mem.tail _ (List.Mem.tail _ (List.Mem.tail _ (List.Mem.tail _ (List.Mem.tail _ (List.Mem.tail _ (List.Mem.tail _ (List.Mem.tail _ (List.Mem.tail _ (List.Mem.tail _ (List.Mem.tail _ (List.Mem.tail _ (List.Mem.head _))))))))))))))))))))))))))))), List.forall_mem_nil _⟩⟩⟩⟩⟩⟩⟩⟩⟩⟩⟩⟩⟩⟩⟩⟩⟩⟩⟩⟩⟩⟩⟩⟩⟩⟩⟩⟩
    · exact List.forall_mem_cons.mpr ⟨(notin7 (x := p1) (a := n0) (b := rr0) (c := n1) (d := rr1) (e := lr) (f := lp) (g := ls) (Nat.ne_of_gt (by omega)) (Nat.ne_of_gt (by omega)) (Nat.ne_of_gt (by omega)) (Nat.ne_of_gt (by omega)) (Nat.ne_of_gt (by omega)) (Nat.ne_of_lt (by omega)) (Nat.ne_of_gt (by omega))), List.forall_mem_cons.mpr ⟨(notin7 (x := p0) (a := n0) (b := rr0) (c := n1) (d := rr1) (e := lr) (f := lp) (g := ls) (Nat.ne_of_gt (by omega)) (Nat.ne_of_gt (by omega)) (Nat.ne_of_gt (by omega)) (Nat.ne_of_gt (by omega)) (Nat.ne_of_gt (by omega)) (Nat.ne_of_lt (by omega)) (Nat.ne_of_gt (by omega))), List.forall_mem_cons.mpr ⟨(notin7 (x := r1) (a := n0) (b := rr0) (c := n1) (d := rr1) (e := lr) (f := lp) (g := ls) (Nat.ne_of_gt (by omega)) (Nat.ne_of_gt (by omega)) (Nat.ne_of_gt (by omega)) (Nat.ne_of_gt (by omega)) (Nat.ne_of_lt (by omega)) (Nat.ne_of_lt (by omega)) (Nat.ne_of_gt (by omega))), List.forall_mem_cons.mpr ⟨(notin7 (x := r0) (a := n0) (b := rr0) (c := n1) (d := rr1) (e := lr) (f := lp) (g := ls) (Nat.ne_of_gt (by omega)) (Nat.ne_of_gt (by omega)) (Nat.ne_of_gt (by omega)) (Nat.ne_of_gt (by omega)) (Nat.ne_of_lt (by omega)) (Nat.ne_of_lt (by omega)) (Nat.ne_of_gt (by omega))), List.forall_mem_cons.mpr ⟨(notin7 (x := lq) (a := n0) (b := rr0) (c := n1) (d := rr1) (e := lr) (f := lp) (g := ls) (Nat.ne_of_gt (by omega)) (Nat.ne_of_gt (by omega)) (Nat.ne_of_gt (by omega)) (Nat.ne_of_gt (by omega)) (Nat.ne_of_lt (by omega)) (Nat.ne_of_lt (by omega)) (Nat.ne_of_gt (by omega))), List.forall_mem_cons.mpr ⟨(notin7 (x := D1) (a := n0) (b := rr0) (c := n1) (d := rr1) (e := lr) (f := lp) (g := ls) (Nat.ne_of_gt (by omega)) (Nat.ne_of_gt (by omega)) (Nat.ne_of_gt (by omega)) (Nat.ne_of_gt (by omega)) (Nat.ne_of_lt (by omega)) (Nat.ne_of_lt (by omega)) (Nat.ne_of_gt (by omega))), List.forall_mem_cons.mpr ⟨(notin7 (x := q1) (a := n0) (b := rr0) (c := n1) (d := rr1) (e := lr) (f := lp) (g := ls) (Nat.ne_of_gt (by omega)) (Nat.ne_of_gt (by omega)) (Nat.ne_of_gt (by omega)) (Nat.ne_of_lt (by omega)) (Nat.ne_of_lt (by omega)) (Nat.ne_of_lt (by omega)) (Nat.ne_of_gt (by omega))), List.forall_mem_cons.mpr ⟨(notin7 (x := d1) (a := n0) (b := rr0) (c := n1) (d := rr1) (e := lr) (f := lp) (g := ls) (Nat.ne_of_gt (by omega)) (Nat.ne_of_gt (by omega)) (Nat.ne_of_gt (by omega)) (Nat.ne_of_lt (by omega)) (Nat.ne_of_lt (by omega)) (Nat.ne_of_lt (by omega)) (Nat.ne_of_gt (by omega))), List.forall_mem_cons.mpr ⟨(notin7 (x := f1) (a := n0) (b := rr0) (c := n1) (d := rr1) (e := lr) (f := lp) (g := ls) (Nat.ne_of_gt (by omega)) (Nat.ne_of_gt (by omega)) (Nat.ne_of_gt (by omega)) (Nat.ne_of_lt (by omega)) (Nat.ne_of_lt (by omega)) (Nat.ne_of_lt (by omega)) (Nat.ne_of_gt (by omega))), List.forall_mem_cons.mpr ⟨(notin7 (x := c1) (a := n0) (b := rr0) (c := n1) (d := rr1) (e := lr) (f := lp) (g := ls) (Nat.ne_of_gt (by omega)) (Nat.ne_of_gt (by omega)) (Nat.ne_of_gt (by omega)) (Nat.ne_of_lt (by omega)) (Nat.ne_of_lt (by omega)) (Nat.ne_of_lt (by omega)) (Nat.ne_of_gt (by omega))), List.forall_mem_cons.mpr ⟨(notin7 (x := D0) (a := n0) (b := rr0) (c := n1) (d := rr1) (e := lr) (f := lp) (g := ls) (Nat.ne_of_gt (by omega)) (Nat.ne_of_gt (by omega)) (Nat.ne_of_gt (by omega)) (Nat.ne_of_lt (by omega)) (Nat.ne_of_lt (by omega)) (Nat.ne_of_lt (by omega)) (Nat.ne_of_gt (by omega))), List.forall_mem_cons.mpr ⟨(notin7 (x := q0) (a := n0) (b := rr0) (c := n1) (d := rr1) (e := lr) (f := lp) (g := ls) (Nat.ne_of_gt (by omega)) (Nat.ne_of_lt (by omega)) (Nat.ne_of_gt (by omega)) (Nat.ne_of_lt (by omega)) (Nat.ne_of_lt (by omega)) (Nat.ne_of_lt (by omega)) (Nat.ne_of_gt (by omega))), List.forall_mem_cons.mpr ⟨(notin7 (x := d0) (a := n0) (b := rr0) (c := n1) (d := rr1) (e := lr) (f := lp) (g := ls) (Nat.ne_of_gt (by omega)) (Nat.ne_of_lt (by omega)) (Nat.ne_of_gt (by omega)) (Nat.ne_of_lt (by omega)) (Nat.ne_of_lt (by omega)) (Nat.ne_of_lt (by omega)) (Nat.ne_of_gt (by omega))), List.forall_mem_cons.mpr ⟨(notin7 (x := f0) (a := n0) (b := rr0) (c := n1) (d := rr1) (e := lr) (f := lp) (g := ls) (Nat.ne_of_gt (by omega)) (Nat.ne_of_lt (by omega)) (Nat.ne_of_gt (by omega)) (Nat.ne_of_lt (by omega)) (Nat.ne_of_lt (by omega)) (Nat.ne_of_lt (by omega)) (Nat.ne_of_gt (by omega))), List.forall_mem_cons.mpr ⟨(notin7 (x := c0) (a := n0) (b := rr0) (c := n1) (d := rr1) (e := lr) (f := lp) (g := ls) (Nat.ne_of_gt (by omega)) (Nat.ne_of_lt (by omega)) (Nat.ne_of_gt (by omega)) (Nat.ne_of_lt (by omega)) (Nat.ne_of_lt (by omega)) (Nat.ne_of_lt (by omega)) (Nat.ne_of_gt (by omega))), List.forall_mem_cons.mpr ⟨(notin7 (x := ln) (a := n0) (b := rr0) (c := n1) (d := rr1) (e := lr) (f := lp) (g := ls) (Nat.ne_of_gt (by omega)) (Nat.ne_of_lt (by omega)) (Nat.ne_of_gt (by omega)) (Nat.ne_of_lt (by omega)) (Nat.ne_of_lt (by omega)) (Nat.ne_of_lt (by omega)) (Nat.ne_of_gt (by omega))), List.forall_mem_cons.mpr ⟨(notin7 (x := lk) (a := n0) (b := rr0) (c := n1) (d := rr1) (e := lr) (f := lp) (g := ls) (Nat.ne_of_lt (by omega)) (Nat.ne_of_lt (by omega)) (Nat.ne_of_lt (by omega)) (Nat.ne_of_lt (by omega)) (Nat.ne_of_lt (by omega)) (Nat.ne_of_lt (by omega)) (Nat.ne_of_lt (by omega))), List.forall_mem_cons.mpr ⟨(notin7 (x := L + 1 + 1 + 1) (a := n0) (b := rr0) (c := n1) (d := rr1) (e := lr) (f := lp) (g := ls) (Nat.ne_of_lt (by omega)) (Nat.ne_of_lt (by omega)) (Nat.ne_of_lt (by omega)) (Nat.ne_of_lt (by omega)) (Nat.ne_of_lt (by omega)) (Nat.ne_of_lt (by omega)) (Nat.ne_of_lt (by omega))), List.forall_mem_cons.mpr ⟨(notin7 (x := L + 1 + 1) (a := n0) (b := rr0) (c := n1) (d := rr1) (e := lr) (f := lp) (g := ls) (Nat.ne_of_lt (by omega)) (Nat.ne_of_lt (by omega)) (Nat.ne_of_lt (by omega)) (Nat.ne_of_lt (by omega)) (Nat.ne_of_lt (by omega)) (Nat.ne_of_lt (by omega)) (Nat.ne_of_lt (by omega))), List.forall_mem_cons.mpr ⟨(notin7 (x := L + 1) (a := n0) (b := rr0) (c := n1) (d := rr1) (e := lr) (f := lp) (g := ls) (Nat.ne_of_lt (by omega)) (Nat.ne_of_lt (by omega)) (Nat.ne_of_lt (by omega)) (Nat.ne_of_lt (by omega)) (Nat.ne_of_lt (by omega)) (Nat.ne_of_lt (by omega)) (Nat.ne_of_lt (by omega))), List.forall_mem_cons.mpr ⟨(notin7 (x := 93) (a := n0) (b := rr0) (c := n1) (d := rr1) (e := lr) (f := lp) (g := ls) (Nat.ne_of_lt (by omega)) (Nat.ne_of_lt (by omega)) (Nat.ne_of_lt (by omega)) (Nat.ne_of_lt (by omega)) (Nat.ne_of_lt (by omega)) (Nat.ne_of_lt (by omega)) (Nat.ne_of_lt (by omega))), List.forall_mem_nil _⟩⟩⟩⟩⟩⟩⟩⟩⟩⟩⟩⟩⟩⟩⟩⟩⟩⟩⟩⟩⟩
    · exact ⟨(List.Mem.tail _ (List.Mem.tail _ (List.Mem.tail _ (List.Mem.tail _ (List.Mem.head _))))), (List.Mem.tail _ (List.Mem.tail _ (List.Mem.tail _ (List.Mem.tail _ (List.Mem.tail _ (List.Mem.tail _ (List.Mem.tail _ (List.Mem.tail _ (List.Mem.tail _ (List.Mem.tail _ (List.Mem.tail _ (List.Mem.tail _ (List.Mem.tail _ (List.Mem.tail _ (List.Mem.tail _ (List.Mem.head _)))))))))))))))), (List.Mem.tail _ (List.Mem.tail _ (List.Mem.tail _ (List.Mem.tail _ (List.Mem.tail _ (List.Mem.tail _ (List.Mem.tail _ (List.Mem.tail _ (List.Mem.tail _ (List.Mem.tail _ (List.Mem.tail _ (List.Mem.tail _ (List.Mem.tail _ (List.Mem.tail _ (List.Mem.tail _ (List.Mem.tail _ (List.Mem.head _))))))))))))))))), (List.Mem.tail _ (List.Mem.tail _ (List.Mem.tail _ (List.Mem.tail _ (List.Mem.tail _ (List.Mem.tail _ (List.Mem.tail _ (List.Mem.tail _ (List.Mem.tail _ (List.Mem.tail _ (List.Mem.tail _ (List.Mem.tail _ (List.Mem.tail _ (List.Mem.tail _ (List.Mem.tail _ (List.Mem.tail _ (List.Mem.tail _ (List.Mem.tail _ (List.Mem.tail _ (List.Mem.head _)))))))))))))))))))), (List.Mem.tail _ (List.Mem.tail _ (List.Mem.tail _ (List.Mem.tail _ (List.Mem.tail _ (List.Mem.tail _ (List.Mem.tail _ (List.Mem.tail _ (List.Mem.tail _ (List.Mem.tail _ (List.Mem.tail _ (List.Mem.tail _ (List.Mem.tail _ (List.Mem.tail _ (List.Mem.tail _ (List.Mem.tail _ (List.Mem.tail _ (List.Mem.tail _ (List.Mem.head _))))))))))))))))))), (List.Mem.tail _ (List.Mem.tail _ (List.Mem.tail _ (List.Mem.tail _ (List.Mem.tail _ (List.Mem.tail _ (List.Mem.tail _ (List.Mem.tail _ (List.Mem.tail _ (List.Mem.tail _ (List.Mem.tail _ (List.Mem.tail _ (List.Mem.tail _ (List.Mem.tail _ (List.Mem.tail _ (List.Mem.tail _ (List.Mem.tail _ (List.Mem.head _)))))))))))))))))), dk, dn, ds⟩
    · exact ⟨(List.Mem.tail _ (List.Mem.tail _ (List.Mem.tail _ (List.Mem.tail _ (List.Mem.tail _ (List.Mem.tail _ (List.Mem.tail _ (List.Mem.tail _ (List.Mem.tail _ (List.Mem.tail _ (List.Mem.tail _ (List.Mem.head _)))))))))))), (List.Mem.tail _ (List.Mem.tail _ (List.Mem.tail _ (List.Mem.tail _ (List.Mem.tail _ (List.Mem.tail _ (List.Mem.tail _ (List.Mem.tail _ (List.Mem.tail _ (List.Mem.tail _ (List.Mem.tail _ (List.Mem.tail _ (List.Mem.head _))))))))))))), (List.Mem.tail _ (List.Mem.tail _ (List.Mem.tail _ (List.Mem.tail _ (List.Mem.tail _ (List.Mem.tail _ (List.Mem.tail _ (List.Mem.tail _ (List.Mem.tail _ (List.Mem.tail _ (List.Mem.tail _ (List.Mem.tail _ (List.Mem.tail _ (List.Mem.head _)))))))))))))), List.forall_mem_cons.mpr ⟨((List.Mem.tail _ (List.Mem.tail _ (List.Mem.tail _ (List.Mem.tail _ (List.Mem.tail _ (List.Mem.tail _ (List.Mem.tail _ (List.Mem.tail _ (List.Mem.tail _ (List.Mem.tail _ (List.Mem.tail _ (List.Mem.tail _ (List.Mem.tail _ (List.Mem.head _))))))))))))))), List.forall_mem_cons.mpr ⟨((List.Mem.tail _ (List.Mem.tail _ (List.Mem.tail _ (List.Mem.tail _ (List.Mem.tail _ (List.Mem.tail _ (List.Mem.tail _ (List.Mem.tail _ (List.Mem.tail _ (List.Mem.tail _ (List.Mem.tail _ (List.Mem.tail _ (List.Mem.tail _ (List.Mem.tail _ (List.Mem.head _)))))))))))))))), List.forall_mem_cons.mpr ⟨((List.Mem.tail _ (List.Mem.tail _ (List.Mem.tail _ (List.Mem.tail _ (List.Mem.tail _ (List.Mem.tail _ (List.Mem.tail _ (List.Mem.tail _ (List.Mem.tail _ (List.Mem.tail _ (List.Mem.tail _ (List.Mem.tail _ (List.Mem.tail _ (List.Mem.tail _ (List.Mem.tail _ (List.Mem.tail _ (List.Mem.tail _ (List.Mem.head _))))))))))))))))))), List.forall_mem_cons.mpr ⟨((List.Mem.tail _ (List.Mem.tail _ (List.Mem.tail _ (List.Mem.tail _ (List.Mem.tail _ (List.Mem.tail _ (List.Mem.tail _ (List.Mem.tail _ (List.Mem.tail _ (List.Mem.tail _ (List.Mem.tail _ (List.Mem.tail _ (List.Mem.tail _ (List.Mem.tail _ (List.Mem.tail _ (List.Mem.tail _ (List.Mem.tail _ (List.Mem.tail _ (List.Mem.head _)))))))))))))))))))), List.forall_mem_cons.mpr ⟨((List.Mem.tail _ (List.Mem.tail _ (List.Mem.tail _ (List.Mem.tail _ (List.Mem.tail _ (List.Mem.tail _ (List.Mem.tail _ (List.Mem.tail _ (List.Mem.tail _ (List.Mem.tail _ (List.Mem.tail _ (List.Mem.tail _ (List.Mem.tail _ (List.Mem.tail _ (List.Mem.tail _ (List.Mem.tail _ (List.Mem.tail _ (List.Mem.tail _ (List.Mem.tail _ (List.Mem.head _))))))))))))))))))))), List.forall_mem_cons.mpr ⟨((List.Mem.tail _ (List.Mem.tail _ (List.Mem.tail _ (List.Mem.tail _ (List.Mem.tail _ (List.Mem.tail _ (List.Mem.tail _ (List.Mem.tail _ (List.Mem.tail _ (List.Mem.tail _ (List.Mem.tail _ (List.Mem.tail _ (List.Mem.tail _ (List.Mem.tail _ (List.Mem.tail _ (List.Mem.head _))))))))))))))))), List.forall_mem_cons.mpr ⟨((List.Mem.tail _ (List.Mem.tail _ (List.Mem.tail _ (List.Mem.tail _ (List.Mem.tail _ (List.Mem.tail _ (List.Mem.tail _ (List.Mem.tail _ (List.Mem.tail _ (List.Mem.tail _ (List.Mem.tail _ (List.Mem.tail _ (List.Mem.tail _ (List.Mem.tail _ (List.Mem.tail _ (List.Mem.tail _ (List.Mem.head _)))))))))))))))))), List.forall_mem_cons.mpr ⟨((List.Mem.tail _ (List.Mem.tail _ (List.Mem.tail _ (List.Mem.tail _ (List.Mem.tail _ (List.Mem.tail _ (List.Mem.tail _ (List.Mem.tail _ (List.Mem.tail _ (List.Mem.tail _ (List.Mem.tail _ (List.Mem.tail _ (List.Mem.tail _ (List.Mem.tail _ (List.Mem.tail _ (List.Mem.tail _ (List.Mem.tail _ (List.Mem.tail _ (List.Mem.tail _ (List.Mem.tail _ (List.Mem.head _)))))))))))))))))))))), List.forall_mem_nil _⟩⟩⟩⟩⟩⟩⟩⟩, List.forall_mem_cons.mpr ⟨(notIt_data fun _ q => by cases q), List.forall_mem_cons.mpr ⟨(code_notIt e0 g0), List.forall_mem_cons.mpr ⟨(notIt_data fun _ q => by rw [ds] at q; cases q), List.forall_mem_cons.mpr ⟨(notIt_data fun _ q => by rw [dn] at q; cases q), List.forall_mem_cons.mpr ⟨(notIt_data fun _ q => by rw [dk] at q; cases q), List.forall_mem_cons.mpr ⟨(notIt_data fun _ q => by cases q), List.forall_mem_cons.mpr ⟨(notIt_data fun _ q => by cases q), List.forall_mem_cons.mpr ⟨(fun i j e => by (have hh := congrArg Obj.cls e); simp [tabObj, itR] at hh), List.forall_mem_nil _⟩⟩⟩⟩⟩⟩⟩⟩, z0, y0⟩
    · exact ⟨(List.Mem.tail _ (List.Mem.tail _ (List.Mem.tail _ (List.Mem.tail _ (List.Mem.tail _ (List.Mem.tail _ (List.Mem.head _))))))), (List.Mem.tail _ (List.Mem.tail _ (List.Mem.tail _ (List.Mem.tail _ (List.Mem.tail _ (List.Mem.tail _ (List.Mem.tail _ (List.Mem.head _)))))))), (List.Mem.tail _ (List.Mem.tail _ (List.Mem.tail _ (List.Mem.tail _ (List.Mem.tail _ (List.Mem.tail _ (List.Mem.tail _ (List.Mem.tail _ (List.Mem.head _))))))))), List.forall_mem_cons.mpr ⟨((List.Mem.tail _ (List.Mem.tail _ (List.Mem.tail _ (List.Mem.tail _ (List.Mem.tail _ (List.Mem.tail _ (List.Mem.tail _ (List.Mem.tail _ (List.Mem.head _)))))))))), List.forall_mem_cons.mpr ⟨((List.Mem.tail _ (List.Mem.tail _ (List.Mem.tail _ (List.Mem.tail _ (List.Mem.tail _ (List.Mem.tail _ (List.Mem.tail _ (List.Mem.tail _ (List.Mem.tail _ (List.Mem.head _))))))))))), List.forall_mem_cons.mpr ⟨((List.Mem.tail _ (List.Mem.tail _ (List.Mem.tail _ (List.Mem.tail _ (List.Mem.tail _ (List.Mem.tail _ (List.Mem.tail _ (List.Mem.tail _ (List.Mem.tail _ (List.Mem.tail _ (List.Mem.tail _ (List.Mem.tail _ (List.Mem.tail _ (List.Mem.tail _ (List.Mem.tail _ (List.Mem.tail _ (List.Mem.tail _ (List.Mem.head _))))))))))))))))))), List.forall_mem_cons.mpr ⟨((List.Mem.tail _ (List.Mem.tail _ (List.Mem.tail _ (List.Mem.tail _ (List.Mem.tail _ (List.Mem.tail _ (List.Mem.tail _ (List.Mem.tail _ (List.Mem.tail _ (List.Mem.tail _ (List.Mem.tail _ (List.Mem.tail _ (List.Mem.tail _ (List.Mem.tail _ (List.Mem.tail _ (List.Mem.tail _ (List.Mem.tail _ (List.Mem.tail _ (List.Mem.head _)))))))))))))))))))), List.forall_mem_cons.mpr ⟨((List.Mem.tail _ (List.Mem.tail _ (List.Mem.tail _ (List.Mem.tail _ (List.Mem.tail _ (List.Mem.tail _ (List.Mem.tail _ (List.Mem.tail _ (List.Mem.tail _ (List.Mem.tail _ (List.Mem.tail _ (List.Mem.tail _ (List.Mem.tail _ (List.Mem.tail _ (List.Mem.tail _ (List.Mem.tail _ (List.Mem.tail _ (List.Mem.tail _ (List.Mem.tail _ (List.Mem.head _))))))))))))))))))))), List.forall_mem_cons.mpr ⟨((List.Mem.tail _ (List.Mem.tail _ (List.Mem.tail _ (List.Mem.tail _ (List.Mem.tail _ (List.Mem.tail _ (List.Mem.tail _ (List.Mem.tail _ (List.Mem.tail _ (List.Mem.tail _ (List.Mem.tail _ (List.Mem.tail _ (List.Mem.tail _ (List.Mem.tail _ (List.Mem.tail _ (List.Mem.head _))))))))))))))))), List.forall_mem_cons.mpr ⟨((List.Mem.tail _ (List.Mem.tail _ (List.Mem.tail _ (List.Mem.tail _ (List.Mem.tail _ (List.Mem.tail _ (List.Mem.tail _ (List.Mem.tail _ (List.Mem.tail _ (List.Mem.tail _ (List.Mem.tail _ (List.Mem.tail _ (List.Mem.tail _ (List.Mem.tail _ (List.Mem.tail _ (List.Mem.tail _ (List.Mem.head _)))))))))))))))))), List.forall_mem_cons.mpr ⟨((List.Mem.tail _ (List.Mem.tail _ (List.Mem.tail _ (List.Mem.tail _ (List.Mem.tail _ (List.Mem.tail _ (List.Mem.tail _ (List.Mem.tail _ (List.Mem.tail _ (List.Mem.tail _ (List.Mem.tail _ (List.Mem.tail _ (List.Mem.tail _ (List.Mem.tail _ (List.Mem.tail _ (List.Mem.tail _ (List.Mem.tail _ (List.Mem.tail _ (List.Mem.tail _ (List.Mem.tail _ (List.Mem.head _)))))))))))))))))))))), List.forall_mem_nil _⟩⟩⟩⟩⟩⟩⟩⟩, List.forall_mem_cons.mpr ⟨(notIt_data fun _ q => by cases q), List.forall_mem_cons.mpr ⟨(code_notIt e1 g1), List.forall_mem_cons.mpr ⟨(notIt_data fun _ q => by rw [ds] at q; cases q), List.forall_mem_cons.mpr ⟨(notIt_data fun _ q => by rw [dn] at q; cases q), List.forall_mem_cons.mpr ⟨(notIt_data fun _ q => by rw [dk] at q; cases q), List.forall_mem_cons.mpr ⟨(notIt_data fun _ q => by cases q), List.forall_mem_cons.mpr ⟨(notIt_data fun _ q => by cases q), List.forall_mem_cons.mpr ⟨(fun i j e => by (have hh := congrArg Obj.cls e); simp [tabObj, itR] at hh), List.forall_mem_nil _⟩⟩⟩⟩⟩⟩⟩⟩, z1, y1⟩
end Mine
theorem Mine.freshL2 : (0 : Nat) = 0 := by
  w_top off
  first | walk1 | rfl
namespace Mine



section
local macro_rules | `(tactic| walk_at "eval IfExp") => `(tactic| (refine IfExp_int (fun _ => True) ?_ ?_; rotate_left; (intro i' t' tk' hp'; clear hp'); rotate_right))
local macro_rules | `(tactic| walk_at "IntEnd") => `(tactic| exact ⟨_, _, _, True.intro, rfl, rfl⟩)
local macro_rules | `(tactic| walk_at "callWith ref") => `(tactic| (k_here; (with_reducible show wpAny _ _ (callWith _ (Value.ref 52) _ (backTo _ (starEach [] _)) (backToKw _ _)) _ _ _); k_dflt (refine' callWith_KW0 ?k1 ?k2 ?k3 ?_; (case k1 => k_asm); (case k2 => k_is); (case k3 => exact rfl); k_whole)))
local macro_rules | `(tactic| k_steps) => `(tactic| repeat' ((fail_if_success (with_reducible show wpAny _ _ (execs (Stmt.For _ _ _ _ _ :: _) _) _ _ _)); first | (k_unfold; (try dsimp only)) | (k_end; wrow_close) | walk1 | (dsimp only; walk1) | (leave1; walk_say "STEP leave1"; try dsimp only) | fail "no step"))
theorem t : PySem.Challenge.rw_ah6005_01.Holds := Mine.hd (by
  k_go0
  (all_goals try k_fold)
  k_steps
  rename Fr _ _ _ _ => F9
  rename News _ _ _ _ => N9
  refine' law_final N9 F9 ?B ?X ?T rfl rfl rfl rfl ?hsc ?hI ?hss ?e0 ?g0 ?e1 ?g1 ?dk ?dn ?ds ?z0 ?y0 ?z1 ?y1 ?o0 ?o1 ?o2 ?o3 ?o4 ?o5 ?o6 ?o7 ?o8 ?o9 ?o10 ?o11 ?o12 ?o13 ?o14 ?o15 ?o16 ?o17 ?o18 ?o19 ?o20 ?o21 ?o22 ?o23 ?o93 ?eb ?ee ?eP0 ?eB0 ?eS0 ?eP1 ?eB1 ?eS1 ?hE ?hret
  case B => assumption
  case X => assumption
  case T => assumption
  case hsc => assumption
  case hI => assumption
  case hss => omega
  case e0 => assumption
  case g0 => assumption
  case e1 => assumption
  case g1 => assumption
  case dk => assumption
  case dn => assumption
  case ds => assumption
  case z0 => exact Int.fmod_nonneg_of_pos _ (by decide)
  case y0 => exact Int.fmod_lt_of_pos _ (by decide)
  case z1 => exact Int.fmod_nonneg_of_pos _ (by decide)
  case y1 => exact Int.fmod_lt_of_pos _ (by decide)
  case o0 => first | assumption | exact And.left (by assumption) 
  case o1 => first | assumption | exact And.left (by assumption) 
  case o2 => first | assumption | exact And.left (by assumption) 
  case o3 => first | assumption | exact And.left (by assumption) 
  case o4 => first | assumption | exact And.left (by assumption) 
  case o5 => first | assumption | exact And.left (by assumption) 
  case o6 => first | assumption | exact And.left (by assumption) 
  case o7 => first | assumption | exact And.left (by assumption) 
  case o8 => first | assumption | exact And.left (by assumption) 
  case o9 => first | assumption | exact And.left (by assumption) 
  case o10 => first | assumption | exact And.left (by assumption) 
  case o11 => first | assumption | exact And.left (by assumption) 
  case o12 => first | assumption | exact And.left (by assumption) 
  case o13 => first | assumption | exact And.left (by assumption) 
  case o14 => first | assumption | exact And.left (by assumption) 
  case o15 => first | assumption | exact And.left (by assumption) 
  case o16 => first | assumption | exact And.left (by assumption) 
  case o17 => first | assumption | exact And.left (by assumption) 
  case o18 => first | assumption | exact And.left (by assumption) 
  case o19 => first | assumption | exact And.left (by assumption) 
  case o20 => first | assumption | exact And.left (by assumption) 
  case o21 => first | assumption | exact And.left (by assumption) 
  case o22 => first | assumption | exact And.left (by assumption) 
  case o23 => first | assumption | exact And.left (by assumption) 
  case o93 => first | exact And.right (And.right (And.right (by assumption))) | omega
  case eb => (symm; conv => lhs; whnf)
  case ee => (symm; conv => lhs; whnf)
  case eP0 => (symm; conv => lhs; whnf)
  case eB0 => (symm; conv => lhs; whnf)
  case eS0 => (symm; conv => lhs; whnf)
  case eP1 => (symm; conv => lhs; whnf)
  case eB1 => (symm; conv => lhs; whnf)
  case eS1 => (symm; conv => lhs; whnf)
  case hE => passes_own
  case hret =>
    intro h' tk' m' news' F' N' _
    clear F9 N9
    dsimp only
    refine ⟨?_, ?_⟩
    · wrow_close
    · exact ⟨⟨_, (N' _ (List.Mem.head _)).1⟩, True.intro⟩)
end
end Mine
theorem PySem.Challenge.cw_ah6005_01_holds : PySem.Challenge.rw_ah6005_01.Holds := by
  exact Mine.t
