import PyProof.Rows.All
import Wide.All
import OpenK.AllK
import Wide.FinOn
import PySem.Challenge.RW_oy0031_01
set_option Elab.async false
section PartHead
open PySem PySem.W PyProof.Rows
namespace Mine
set_option maxRecDepth 100000 in
set_option maxHeartbeats 8000000 in
open_top hd for PySem.Challenge.rw_oy0031_01
theorem switched : True := by
  w_top off
  trivial
end Mine
end PartHead
section PartB1
open PySem PySem.W PyProof.Rows
set_option maxRecDepth 100000
set_option Elab.async false
namespace Mine
abbrev Tri := Int × Int × Int
abbrev Ent := Value × Tri
def triD (t : Tri) : Dat := .tuple [.int t.1, .int t.2.1, .int t.2.2]
def triLt (a b : Tri) : Bool := if a.1 = b.1 then (if a.2.1 = b.2.1 then decide (a.2.2 < b.2.2) else decide (a.2.1 < b.2.1)) else decide (a.1 < b.1)

theorem tri_of {news : List (Addr × Obj)} {v : Value} {t : Tri} (h : DatIn news v (triD t)) :
    ∃ a x y z n, v = .ref a ∧ (a, ({ cls := .type "tuple", data := .seq #[.int t.1 x, .int t.2.1 y, .int t.2.2 z] n } : Obj)) ∈ news := by
  cases h with
  | tuple hm r =>
    cases r with
    | cons h1 r =>
      cases r with
      | cons h2 r =>
        cases r with
        | cons h3 r =>
          cases r; cases h1; cases h2; cases h3
          exact ⟨_, _, _, _, _, rfl, hm⟩

section
variable {prog : Program} {w : World} {A : Around} {E : Value → Shared → Prop} {s : Shared} {h₀ : Heap} {L : Addr} {m : Str → Option Value} {news : List (Addr × Obj)}

theorem lt_tree {a b : Addr} {x1 x2 x3 y1 y2 y3 : Int} {t1 t2 t3 u1 u2 u3 : Tok} {n k : Nat} {P : PySem.Fin → Shared → Prop}
    (ha : s.heap.get? a = some { cls := .type "tuple", data := .seq #[.int x1 t1, .int x2 t2, .int x3 t3] n })
    (hb : s.heap.get? b = some { cls := .type "tuple", data := .seq #[.int y1 u1, .int y2 u2, .int y3 u3] k })
    (h : P (.done (.ret (.bool (triLt (x1, x2, x3) (y1, y2, y3))))) s) :
    wpAny (model prog w) A (Builtin.«tuple.__lt__» ⟨[.ref a, .ref b], []⟩) P E s := by
  show wpAny _ _ (isInstance (.ref b) (.type "tuple") >>= _) _ _ s
  refine wpAny_bind (wpAny_isInstance (T := "tuple") ⟨_, hb, rfl⟩ isSubtype_tuple_tuple ?_)
  simp only [Bool.not_true, Bool.false_eq_true, if_false]
  refine wpAny_bind (wpAny_tupleItemsOf ha rfl ?_)
  refine wpAny_bind (wpAny_tupleItemsOf hb rfl ?_)
  refine wpAny_bind ?_
  simp only [List.zip_cons_cons, List.zip_nil_right]
  unfold triLt at h
  rw [List.forIn_cons]
  refine wpAny_bind (wpAny_bind (wpAny_eqBool_int ?_))
  by_cases e1 : x1 = y1
  · subst e1
    simp only [BEq.rfl, Bool.not_true, Bool.false_eq_true, if_false]
    refine wpAny_pure ?_
    dsimp only
    rw [List.forIn_cons]
    refine wpAny_bind (wpAny_bind (wpAny_eqBool_int ?_))
    by_cases e2 : x2 = y2
    · subst e2
      simp only [BEq.rfl, Bool.not_true, Bool.false_eq_true, if_false]
      refine wpAny_pure ?_
      dsimp only
      rw [List.forIn_cons]
      refine wpAny_bind (wpAny_bind (wpAny_eqBool_int ?_))
      by_cases e3 : x3 = y3
      · subst e3
        simp only [BEq.rfl, Bool.not_true, Bool.false_eq_true, if_false]
        refine wpAny_pure ?_
        dsimp only
        rw [List.forIn_nil]
        refine wpAny_pure ?_
        refine wpAny_pure ?_
        simp at h
        exact h
      · have e : (x3 == y3) = false := beq_eq_false_iff_ne.mpr e3
        rw [e]
        simp only [Bool.not_false, if_true]
        refine wpAny_bind (wpAny_rule (wpAny_bind (wpAny_lt_int ?_)))
        simp at h
        exact wpAny_bind (wpAny_pure (wpAny_pure (wpAny_pure (wpAny_pure h))))
    · have e : (x2 == y2) = false := beq_eq_false_iff_ne.mpr e2
      rw [e]
      simp only [Bool.not_false, if_true]
      refine wpAny_bind (wpAny_rule (wpAny_bind (wpAny_lt_int ?_)))
      simp [e2] at h
      exact wpAny_bind (wpAny_pure (wpAny_pure (wpAny_pure (wpAny_pure h))))
  · have e : (x1 == y1) = false := beq_eq_false_iff_ne.mpr e1
    rw [e]
    simp only [Bool.not_false, if_true]
    refine wpAny_bind (wpAny_rule (wpAny_bind (wpAny_lt_int ?_)))
    simp [e1] at h
    exact wpAny_bind (wpAny_pure (wpAny_pure (wpAny_pure (wpAny_pure h))))

theorem lt_tri {v1 v2 : Value} {a b : Tri} {Q : Value → Shared → Prop} {fz : List (Addr × Obj)} (N : News h₀ L s.heap news) (hs : ∀ p ∈ fz, p ∈ news) (h1 : DatIn fz v1 (triD a)) (h2 : DatIn fz v2 (triD b)) (hu : A.units < cLine)
    (h : Q (.bool (triLt a b)) s) : wpAny (model prog w) A (compareOp .Lt v1 v2) Q E s := by
  obtain ⟨p, _, _, _, n, rfl, hp⟩ := tri_of h1
  obtain ⟨q, _, _, _, k, rfl, hq⟩ := tri_of h2
  have gp := (N _ (hs _ hp)).1
  have gq := (N _ (hs _ hq)).1
  refine wpAny_richCompare_same_room (op := .Lt) (T := "tuple") ⟨_, gp, rfl⟩ ⟨_, gq, rfl⟩ F.slot_tuple_lt (wpAny_call_entry F.slot_tuple_lt ⟨_, gp, rfl⟩ F.entry_tuple_lt (lt_tree gp gq ⟨_, rfl, (fun e => nomatch e), h⟩) (F.args_tuple_lt_2 _ _)) hu
end
end Mine
end PartB1
section PartP1
set_option Elab.async false
namespace Mine
section
variable {α : Type} [Inhabited α] (lt : α → α → Bool)
def sdLoop (x : α) (st : Nat) : Nat → List α → Nat → List α × Nat
  | 0, l, p => (l, p)
  | f + 1, l, p => if st < p then (if lt x (l.getD ((p - 1) / 2) default) = true then sdLoop x st f (l.set p (l.getD ((p - 1) / 2) default)) ((p - 1) / 2) else (l, p)) else (l, p)
def siftdown (l : List α) (st p : Nat) : List α :=
  let r := sdLoop lt (l.getD p default) st p l p
  r.1.set r.2 (l.getD p default)
def suChild (n : Nat) (l : List α) (p : Nat) : Nat :=
  if (decide (2 * p + 2 < n) && !lt (l.getD (2 * p + 1) default) (l.getD (2 * p + 2) default)) = true then 2 * p + 2 else 2 * p + 1
def suLoop (n : Nat) : Nat → List α → Nat → List α × Nat
  | 0, l, p => (l, p)
  | f + 1, l, p => if 2 * p + 1 < n then suLoop n f (l.set p (l.getD (suChild lt n l p) default)) (suChild lt n l p) else (l, p)
def siftup (l : List α) (p : Nat) : List α :=
  let r := suLoop lt l.length l.length l p
  siftdown lt (r.1.set r.2 (l.getD p default)) p r.2
end
theorem getD_mem {α : Type} {l : List α} {i : Nat} {d : α} (h : i < l.length) : l.getD i d ∈ l := by
  rw [List.getD_eq_getElem?_getD, List.getElem?_eq_getElem h]; exact List.getElem_mem h
theorem mem_set_of {α : Type} {l : List α} {i : Nat} {a e : α} (h : e ∈ l.set i a) : e ∈ l ∨ e = a := by
  rcases List.mem_or_eq_of_mem_set h with h | h
  · exact .inl h
  · exact .inr h
end Mine
end PartP1
section PartB2
open PySem PySem.W PyProof.Rows
set_option maxRecDepth 100000
set_option Elab.async false
namespace Mine
theorem fill (P : Params) : (fun (_ : OpenLaw) => nsIn (Mine.hd.heap_39 P) mainGlobals (Str.ofString "zz")) PySem.Challenge.rw_oy0031_01 = (fun (_ : OpenLaw) => nsIn (Mine.hd.heap_39 P) mainGlobals (Str.ofString "zz"))  PySem.Challenge.rw_oy0031_01 := by
  k_fill
  rfl
theorem lookup_kstB (l : List (Str × Value)) : (fun y => List.lookup y l) = kstB (fun _ => none) l := by
  induction l with
  | nil => rfl
  | cons p r ih =>
    funext y
    show List.lookup y ((p.1, p.2) :: r) = if y = p.1 then some p.2 else kstB (fun _ => none) r y
    rw [List.lookup_cons, ← ih]
    by_cases h : y = p.1
    · subst h; simp
    · have hb : (y == p.1) = false := beq_eq_false_iff_ne.mpr h
      rw [hb, if_neg h]
theorem fr_binds {h₀ h : Heap} {L : Addr} {l l' : List (Str × Value)} (F : Fr h₀ L h (fun y => List.lookup y l')) (e : l' = l) : Fr h₀ L h (kstB (fun _ => none) l) := by
  subst e; rw [← lookup_kstB]; exact F
theorem news_sub {h₀ h : Heap} {L : Addr} {a b : List (Addr × Obj)} (N : News h₀ L h a) (hs : ∀ p ∈ b, p ∈ a) : News h₀ L h b := fun p hp => N p (hs p hp)
section
variable {prog : Program} {w : World} {A : Around} {E : Value → Shared → Prop} {s : Shared} {h₀ : Heap} {L D : Addr} {m : Str → Option Value} {news rest : List (Addr × Obj)} {n : Nat} {es : List Ent}
theorem ent_getItem {k : Int} {u : Tok} {Q : Value → Shared → Prop} (N : News h₀ L s.heap news) (hm : (D, listOf (es.map (·.1)).toArray n) ∈ news) (j : Nat) (hk : k = (j : Int)) (h1 : j < es.length) (h64 : es.length ≤ 64) (h : Q (es.getD j default).1 s) :
    wpAny (model prog w) A (getItem (.ref D) (.int k u)) Q E s := by
  have hl : s.heap.IsList D (es.map (·.1)).toArray := ⟨_, (N _ hm).1, rfl, n, rfl⟩
  subst hk
  refine wpAny_getItem_list hl (by omega) (by omega) ?_ h
  simp [h1]
theorem ent_item {value slice : PySem.Expr} {k : Int} {u : Tok} {Q : Value → Shared → Prop} (N : News h₀ L s.heap news) (hm : (D, listOf (es.map (·.1)).toArray n) ∈ news) (j : Nat) (hk : k = (j : Int)) (h1 : j < es.length) (h64 : es.length ≤ 64) (h : Q (es.getD j default).1 s)
    (hs : subscripted slice false (.ref D) (.int k u) = operate [.ref D, .int k u] (getItem (.ref D) (.int k u)) := by with_unfolding_all rfl) :
    wpAny (model prog w) A (subscriptTail value slice (.ref D) (.int k u)) Q E s := by
  have hl : s.heap.IsList D (es.map (·.1)).toArray := ⟨_, (N _ hm).1, rfl, n, rfl⟩
  exact tail_any hl.typeIs slot_list_getitem.lookup (ent_getItem N hm j hk h1 h64 h) hs
theorem ent_set {k : Int} {u : Tok} {v : Value} {Q : Unit → Shared → Prop} (F : Fr h₀ L s.heap m) (N : News h₀ L s.heap ((D, listOf (es.map (·.1)).toArray n) :: rest)) (hne : ∀ p ∈ rest, p.1 ≠ D) (j : Nat) (hk : k = (j : Int)) (h1 : j < es.length) (h64 : es.length ≤ 64)
    (e : Ent) (he : e.1 = v)
    (h : ∀ h', Fr h₀ L h' m → News h₀ L h' ((D, listOf ((es.set j e).map (·.1)).toArray n) :: rest) → Q () { s with heap := h' }) :
    wpAny (model prog w) A (setItem (.ref D) (.int k u) v) Q E s := by
  subst hk
  subst he
  have z := N _ (.head _)
  refine ki_setAt z.1 (by omega) (by omega) (by simp; omega) (h _ (F.change (Heap.SameBut.update ..) z.2.1 z.2.2) ?_)
  refine ki_turn (pre := []) _ N (fun _ h => nomatch h) hne ?_ ?_
  · simp
  · simp
end
end Mine
end PartB2
section PartB3
open PySem PySem.W PyProof.Rows
set_option maxRecDepth 100000
set_option Elab.async false
namespace Mine
theorem fr_k {h₀ h : Heap} {L : Addr} {m : Str → Option Value} {ps : List (Str × Value)} (F : Fr h₀ L h m) (hk : ∀ p ∈ ps, m p.1 = some p.2) : Fr h₀ L h (kstB m ps) := by
  have e : kstB m ps = m := by
    funext z
    exact kstB_eq hk fun _ => rfl
  rw [e]; exact F

def WEnd {σ : Type} (h₀ : Heap) (L : Addr) (s : Shared) (Led : σ → List (Addr × Obj)) (ps : σ → List (Str × Value)) (P : σ → Prop) (μ : σ → Nat) (c : σ) (s₂ : Shared) : Prop :=
  ∃ (c' : σ) (h' : Heap) (tk : Nat) (m' : Str → Option Value), s₂ = { s with heap := h', toks := tk } ∧ Fr h₀ L h' m' ∧ News h₀ L h' (Led c') ∧ (∀ p ∈ ps c', m' p.1 = some p.2) ∧ P c' ∧ μ c' < μ c
def WPost {σ : Type} (h₀ : Heap) (L : Addr) (s : Shared) (Led : σ → List (Addr × Obj)) (ps : σ → List (Str × Value)) (P : σ → Prop) (μ : σ → Nat) (Q : Flow → Shared → Prop) (c : σ) (f : Flow) (s₂ : Shared) : Prop :=
  match f with
  | .ret v => Q (.ret v) s₂
  | .brk => Q .next s₂
  | _ => WEnd h₀ L s Led ps P μ c s₂
theorem w_end {σ : Type} {h₀ : Heap} {L : Addr} {s : Shared} {Led : σ → List (Addr × Obj)} {ps : σ → List (Str × Value)} {P : σ → Prop} {μ : σ → Nat} {c : σ} {h' : Heap} {tk : Nat} {m' : Str → Option Value} (c' : σ)
    (F : Fr h₀ L h' m') (N : News h₀ L h' (Led c')) (hk : ∀ p ∈ ps c', m' p.1 = some p.2) (hp : P c') (hm : μ c' < μ c) :
    WEnd h₀ L s Led ps P μ c { s with heap := h', toks := tk } := ⟨c', h', tk, m', rfl, F, N, hk, hp, hm⟩
section
variable {prog : Program} {w : World} {A : Around} {E : Value → Shared → Prop} {Q : Flow → Shared → Prop} {s : Shared} {env : Env} {h₀ : Heap} {L : Addr}
theorem ent_len {D : Addr} {es : List Ent} {n : Nat} {news : List (Addr × Obj)} {Q : Value → Shared → Prop} (N : News h₀ L s.heap news) (hm : (D, listOf (es.map (·.1)).toArray n) ∈ news) (h64 : es.length ≤ 64)
    (h : ∀ t tk, Q (.int (es.length : Nat) t) { s with toks := tk }) : wpAny (model prog w) A (call (.builtin "len") [.ref D]) Q E s := by
  have hl : s.heap.IsList D (es.map (·.1)).toArray := ⟨_, (N _ hm).1, rfl, n, rfl⟩
  refine len_list hl (by simp; omega) ?_
  have e : ((es.map (·.1)).toArray.size : Int) = (es.length : Nat) := by simp
  rw [e]
  exact h _ _
theorem my_while {σ : Type} {test : Expr} {body : List Stmt} {pos : Pos} {m₀ : Str → Option Value} (Led : σ → List (Addr × Obj)) (ps : σ → List (Str × Value)) (P : σ → Prop) (μ : σ → Nat) (c₀ : σ)
    (F : Fr h₀ L s.heap m₀) (N : News h₀ L s.heap (Led c₀)) (hk : ∀ p ∈ ps c₀, m₀ p.1 = some p.2) (hp : P c₀)
    (turn : ∀ (c : σ) (u : Str → Option Value) h tk, P c → Fr h₀ L h (kstB u (ps c)) → News h₀ L h (Led c) →
      wpAny (model prog w) A (isTrue test env (eval test env)) (fun b s₂ =>
        if b = true then wpAny (model prog w) A (execs body env) (WPost h₀ L s Led ps P μ Q c) E s₂ else Q .next s₂) E { s with heap := h, toks := tk })
    (hE : PassesOwn (model prog w) A env E := by passes_own) :
    wpAny (model prog w) A (exec (.While test body [] pos) env) Q E s := by
  refine While_inv2 (fun n m nx => ∃ c : σ, nx = Led c ∧ μ c = n ∧ (∀ p ∈ ps c, m p.1 = some p.2) ∧ P c) F N ⟨c₀, rfl, rfl, hk, hp⟩ ?_ hE
  rintro n m₁ nx h tk F₁ N₁ ⟨c, rfl, rfl, h1, hp'⟩
  refine wpAny_mono (turn c m₁ h tk hp' (fr_k F₁ h1) N₁) (fun b s₂ p => ?_) fun _ _ x => x
  cases b with
  | false => simpa using p
  | true =>
    simp only [if_true] at p ⊢
    refine wpAny_mono p (fun f s₃ q => ?_) fun _ _ x => x
    cases f with
    | ret v => exact q
    | brk => exact q
    | next =>
      obtain ⟨c', h', tk', m', rfl, F', N', hk', hp', hm⟩ := q
      exact ⟨h', tk', m', Led c', μ c', rfl, F', N', hm, c', rfl, rfl, hk', hp'⟩
    | cont =>
      obtain ⟨c', h', tk', m', rfl, F', N', hk', hp', hm⟩ := q
      exact ⟨h', tk', m', Led c', μ c', rfl, F', N', hm, c', rfl, rfl, hk', hp'⟩
end
end Mine
end PartB3
section PartS2
open PySem PySem.W PyProof.Rows
set_option maxRecDepth 100000
set_option Elab.async false
namespace Mine
theorem fill2 (P : Params) : (fun (_ : OpenLaw) => nsIn (Mine.hd.heap_39 P) mainGlobals (Str.ofString "zz")) PySem.Challenge.rw_oy0031_01 = (fun (_ : OpenLaw) => nsIn (Mine.hd.heap_39 P) mainGlobals (Str.ofString "zz")) PySem.Challenge.rw_oy0031_01 := by
  k_fill
  rfl
theorem half_eq {p : Nat} (h : 0 < p) : ((p : Int) - 1).fdiv (2 ^ Int.toNat 1) = (((p - 1) / 2 : Nat) : Int) := by
  have e : (2 : Int) ^ Int.toNat 1 = 2 := by decide
  rw [e, Int.fdiv_eq_ediv_of_nonneg _ (by omega)]
  omega
def entLt (a b : Ent) : Bool := triLt a.2 b.2

set_option maxHeartbeats 4000000 in
theorem siftdown_ok {prog : Program} {w : World} {p : Program} {loose : List Str} {mean : ExcName → Option Value} {mg mb : Str → Option Value}
   {dp un : Nat} {gd : Option (List Code)} {cn : Str} {cs : Scope} {a : Addr} {ccd : Value} {cl : List (Str × Addr)} {outer : List Env} {A₀ : Around} {base h₀ : Heap} {L : Addr} {m : Str → Option Value} {s : Shared} {Q E : Value → Shared → Prop}
   (B : Below A₀ base outer h₀) (F : Fr h₀ L s.heap m) (X : (Mine.hd.heap_39 w.params).In h₀) (T : Top p loose mean mg mb h₀) (hk : cs.kind = .function) (hd : dp + 3 < recursionLimit) (hu : un + 32 < cLine)
   {hl : Addr} {es : List Ent} {n : Nat} {rest : List (Addr × Obj)} (N : News h₀ L s.heap ((hl, listOf (es.map (·.1)).toArray n) :: rest)) (hne : ∀ p ∈ rest, p.1 ≠ hl) (hes : ∀ e ∈ es, DatIn rest e.1 (triD e.2))
   (st ps : Nat) {t1 t2 : Tok} (hps : ps < es.length) (hlen : es.length ≤ 64)
   (ret : ∀ h' tk' , Fr h₀ L h' m → News h₀ L h' ((hl, listOf ((siftdown entLt es st ps).map (·.1)).toArray n) :: rest) → Q .none { s with heap := h', toks := tk' }) :
   wpAny (model prog w) (ktrTop dp un gd cn cs L a ccd cl outer) (call (.ref 49) [.ref hl, .int st t1, .int ps t2]) Q E s := by
  refine wpAny_call ?_
  k_dflt ktr_enter
  generalize s.toks + List.length _ = tk0
  rename_i g L1 h1 FG F1 N1 B1 X1 T1
  replace F1 := fr_binds F1 (l := [((Str.ofString "pos"), .int ps t2), ((Str.ofString "startpos"), .int st t1), ((Str.ofString "heap"), .ref hl)]) rfl
  repeat ((first | (with_reducible show wpAny _ _ _ _ _ _) | (with_reducible show ite _ _ _)); (fail_if_success (with_reducible show wpAny _ _ (exec (PySem.Stmt.While _ _ _ _) _) _ _ _)); (fail_if_success (with_reducible show wpAny _ _ (pyIter _) _ _ _)); walk1; (try dsimp only))
  refine ent_item N1 (.head _) ps rfl hps hlen ?_
  walk1
  rename_i h2 F2 N2
  refine wpAny_execs_cons ?_
  generalize tk0 + _ = tk1
  refine wpAny_mono (Q := fun f s' => f = .next ∧ ∃ (c : List Ent × Nat × Tok) (h : Heap) (tk : Nat) (u : Str → Option Value), s' = { s with heap := h, toks := tk } ∧ c.1.length = es.length ∧ c.2.1 < es.length ∧ sdLoop entLt (es.getD ps default) st ps es ps = (c.1, c.2.1) ∧
      Fr g L1 h (kstB u [((Str.ofString "pos"), .int c.2.1 c.2.2), ((Str.ofString "newitem"), (es.getD ps default).1), ((Str.ofString "startpos"), .int st t1), ((Str.ofString "heap"), .ref hl)]) ∧
      News g L1 h ((hl, listOf (c.1.map (·.1)).toArray n) :: rest)) ?loop ?after (fun _ _ h => h)
  case loop =>
    refine my_while (σ := List Ent × Nat × Tok) (fun c => (hl, listOf (c.1.map (·.1)).toArray n) :: rest)
      (fun c => [((Str.ofString "pos"), .int c.2.1 c.2.2), ((Str.ofString "newitem"), (es.getD ps default).1), ((Str.ofString "startpos"), .int st t1), ((Str.ofString "heap"), .ref hl)])
      (fun c => (∀ e ∈ c.1, e ∈ es) ∧ c.1.length = es.length ∧ c.2.1 < es.length ∧ ∃ f, c.2.1 ≤ f ∧ sdLoop entLt (es.getD ps default) st f c.1 c.2.1 = sdLoop entLt (es.getD ps default) st ps es ps)
      (fun c => c.2.1) (es, ps, t2) F2 N2 (by kst_all) ⟨fun _ h => h, rfl, hps, ps, Nat.le_refl _, rfl⟩ ?_
    rintro ⟨es', p', t'⟩ u h tk ⟨hf, hlen', hp', f, hpf, hfix⟩ F3 N3
    dsimp only at hf hlen' hp' hpf hfix F3 N3
    repeat ((first | (with_reducible show wpAny _ _ _ _ _ _) | (with_reducible show ite _ _ _)); (fail_if_success (with_reducible show wpAny _ _ (exec (PySem.Stmt.While _ _ _ _) _) _ _ _)); (fail_if_success (with_reducible show wpAny _ _ (pyIter _) _ _ _)); walk1; (try dsimp only))
    · rename_i hc h4 F4 N4
      have hcN : st < p' := by omega
      have ek2 : ((p' : Int) - 1).fdiv (2 ^ Int.toNat 1) = (((p' - 1) / 2 : Nat) : Int) := half_eq (by omega)
      rw [ek2] at F4
      have hpar : (p' - 1) / 2 < es'.length := by omega
      refine ent_item N4 (.head _) ((p' - 1) / 2) ek2 hpar (by omega) ?_
      repeat ((first | (with_reducible show wpAny _ _ _ _ _ _) | (with_reducible show ite _ _ _)); (fail_if_success (with_reducible show wpAny _ _ (exec (PySem.Stmt.While _ _ _ _) _) _ _ _)); (fail_if_success (with_reducible show wpAny _ _ (pyIter _) _ _ _)); walk1; (try dsimp only))
      rename_i h5 F5 N5
      refine lt_tri N5 (fun _ h => .tail _ h) (hes _ (getD_mem hps)) (hes _ (hf _ (getD_mem hpar))) (by ktr_units) ?_
      repeat ((first | (with_reducible show wpAny _ _ _ _ _ _) | (with_reducible show ite _ _ _)); (fail_if_success (with_reducible show wpAny _ _ (exec (PySem.Stmt.While _ _ _ _) _) _ _ _)); (fail_if_success (with_reducible show wpAny _ _ (pyIter _) _ _ _)); walk1; (try dsimp only))
      · rename_i hlt
        refine ent_set F5 N5 hne p' rfl (by omega) (by omega) (es'.getD ((p' - 1) / 2) default) rfl ?_
        intro h6 F6 N6
        repeat ((first | (with_reducible show wpAny _ _ _ _ _ _) | (with_reducible show ite _ _ _)); (fail_if_success (with_reducible show wpAny _ _ (exec (PySem.Stmt.While _ _ _ _) _) _ _ _)); (fail_if_success (with_reducible show wpAny _ _ (pyIter _) _ _ _)); walk1; (try dsimp only))
        rename_i h7 F7 N7
        refine w_end (es'.set p' (es'.getD ((p' - 1) / 2) default), (p' - 1) / 2, _) F7 N7 (by kst_all) ?_ (by dsimp only; omega)
        refine ⟨?_, by simpa using hlen', by dsimp only; omega, ?_⟩
        · intro e he
          rcases mem_set_of he with h | rfl
          · exact hf e h
          · exact hf _ (getD_mem hpar)
        · cases f with
          | zero => omega
          | succ f =>
            refine ⟨f, by dsimp only; omega, ?_⟩
            rw [← hfix, sdLoop, if_pos hcN]
            show _ = if triLt (es.getD ps default).snd (es'.getD ((p' - 1) / 2) default).snd = true then _ else _
            rw [if_pos hlt]
      · rename_i hlt
        repeat ((first | (with_reducible show wpAny _ _ _ _ _ _) | (with_reducible show ite _ _ _)); (fail_if_success (with_reducible show wpAny _ _ (exec (PySem.Stmt.While _ _ _ _) _) _ _ _)); (fail_if_success (with_reducible show wpAny _ _ (pyIter _) _ _ _)); walk1; (try dsimp only))
        refine ⟨rfl, (es', p', t'), _, _, _, rfl, hlen', hp', ?_, fr_k F5 (by kst_all), N5⟩
        rw [← hfix]
        cases f with
        | zero => rfl
        | succ f =>
          rw [sdLoop, if_pos hcN]
          show (if triLt (es.getD ps default).snd (es'.getD ((p' - 1) / 2) default).snd = true then _ else _) = _
          rw [hlt, if_neg (by simp)]
    · rename_i hc
      refine ⟨rfl, (es', p', t'), _, _, _, rfl, hlen', hp', ?_, F3, N3⟩
      have hcN : ¬ st < p' := by omega
      rw [← hfix]
      cases f with
      | zero => rfl
      | succ f => rw [sdLoop, if_neg hcN]
  case after =>
    rintro f s' ⟨rfl, ⟨es', p', t'⟩, h, tk, u, rfl, hlen', hp', hfix, F3, N3⟩
    dsimp only at hlen' hp' hfix F3 N3
    dsimp only
    repeat ((first | (with_reducible show wpAny _ _ _ _ _ _) | (with_reducible show ite _ _ _)); (fail_if_success (with_reducible show wpAny _ _ (exec (PySem.Stmt.While _ _ _ _) _) _ _ _)); (fail_if_success (with_reducible show wpAny _ _ (pyIter _) _ _ _)); walk1; (try dsimp only))
    refine ent_set F3 N3 hne p' rfl (by omega) (by omega) (es.getD ps default) rfl ?_
    intro h6 F6 N6
    repeat ((first | (with_reducible show wpAny _ _ _ _ _ _) | (with_reducible show ite _ _ _)); (fail_if_success (with_reducible show wpAny _ _ (exec (PySem.Stmt.While _ _ _ _) _) _ _ _)); (fail_if_success (with_reducible show wpAny _ _ (pyIter _) _ _ _)); walk1; (try dsimp only))
    refine leaveK_ F6 N6 fun F7 N7 => ?_
    have e : siftdown entLt es st ps = es'.set p' (es.getD ps default) := by unfold siftdown; rw [hfix]
    refine ret _ _ F7 ?_
    rw [e]; exact N7
end Mine
end PartS2
section PartS3
open PySem PySem.W PyProof.Rows
set_option maxRecDepth 100000
set_option Elab.async false
namespace Mine
theorem fill3 (P : Params) : (fun (_ : OpenLaw) => nsIn (Mine.hd.heap_39 P) mainGlobals (Str.ofString "zz")) PySem.Challenge.rw_oy0031_01 = (fun (_ : OpenLaw) => nsIn (Mine.hd.heap_39 P) mainGlobals (Str.ofString "zz")) PySem.Challenge.rw_oy0031_01 := by
  k_fill
  rfl

set_option maxHeartbeats 4000000 in
theorem siftup_ok {prog : Program} {w : World} {p : Program} {loose : List Str} {mean : ExcName → Option Value} {mg mb : Str → Option Value}
   {dp un : Nat} {gd : Option (List Code)} {cn : Str} {cs : Scope} {a : Addr} {ccd : Value} {cl : List (Str × Addr)} {outer : List Env} {A₀ : Around} {base h₀ : Heap} {L : Addr} {m : Str → Option Value} {s : Shared} {Q E : Value → Shared → Prop}
   (B : Below A₀ base outer h₀) (F : Fr h₀ L s.heap m) (X : (Mine.hd.heap_39 w.params).In h₀) (T : Top p loose mean mg mb h₀) (hk : cs.kind = .function) (hd : dp + 4 < recursionLimit) (hu : un + 64 < cLine)
   {hl : Addr} {es : List Ent} {n : Nat} {rest : List (Addr × Obj)} (N : News h₀ L s.heap ((hl, listOf (es.map (·.1)).toArray n) :: rest)) (hne : ∀ p ∈ rest, p.1 ≠ hl) (hes : ∀ e ∈ es, DatIn rest e.1 (triD e.2))
   (ps : Nat) {t2 : Tok} (hps : ps < es.length) (hlen : es.length ≤ 64)
   (ret : ∀ h' tk' , Fr h₀ L h' m → News h₀ L h' ((hl, listOf ((siftup entLt es ps).map (·.1)).toArray n) :: rest) → Q .none { s with heap := h', toks := tk' }) :
   wpAny (model prog w) (ktrTop dp un gd cn cs L a ccd cl outer) (call (.ref 56) [.ref hl, .int ps t2]) Q E s := by
  refine wpAny_call ?_
  k_dflt ktr_enter
  generalize s.toks + List.length _ = tk0
  rename_i g L1 h1 FG F1 N1 B1 X1 T1
  replace F1 := fr_binds F1 (l := [((Str.ofString "pos"), .int ps t2), ((Str.ofString "heap"), .ref hl)]) rfl
  repeat ((first | (with_reducible show wpAny _ _ _ _ _ _) | (with_reducible show ite _ _ _)); (fail_if_success (with_reducible show wpAny _ _ (exec (PySem.Stmt.While _ _ _ _) _) _ _ _)); (fail_if_success (with_reducible show wpAny _ _ (pyIter _) _ _ _)); walk1; (try dsimp only))
  refine ent_len N1 (.head _) hlen ?_
  intro t3 tk3
  repeat ((first | (with_reducible show wpAny _ _ _ _ _ _) | (with_reducible show ite _ _ _)); (fail_if_success (with_reducible show wpAny _ _ (exec (PySem.Stmt.While _ _ _ _) _) _ _ _)); (fail_if_success (with_reducible show wpAny _ _ (pyIter _) _ _ _)); walk1; (try dsimp only))
  rename Fr _ _ _ _ => F2
  rename News _ _ _ _ => N2
  refine ent_item N2 (.head _) ps rfl hps hlen ?_
  repeat ((first | (with_reducible show wpAny _ _ _ _ _ _) | (with_reducible show ite _ _ _)); (fail_if_success (with_reducible show wpAny _ _ (exec (PySem.Stmt.While _ _ _ _) _) _ _ _)); (fail_if_success (with_reducible show wpAny _ _ (pyIter _) _ _ _)); walk1; (try dsimp only))
  rename Fr _ _ _ _ => F3
  rename News _ _ _ _ => N3
  refine wpAny_mono (Q := fun f s' => f = .next ∧ ∃ (c : List Ent × Nat × Tok × Tok) (h : Heap) (tk : Nat) (u : Str → Option Value), s' = { s with heap := h, toks := tk } ∧ (∀ e ∈ c.1, e ∈ es) ∧ c.1.length = es.length ∧ c.2.1 < es.length ∧ suLoop entLt es.length es.length es ps = (c.1, c.2.1) ∧
      Fr g L1 h (kstB u [((Str.ofString "pos"), .int c.2.1 c.2.2.1), ((Str.ofString "newitem"), (es.getD ps default).1), ((Str.ofString "startpos"), .int ps t2), ((Str.ofString "heap"), .ref hl)]) ∧
      News g L1 h ((hl, listOf (c.1.map (·.1)).toArray n) :: rest)) ?loop ?after (fun _ _ h => h)
  case loop =>
    refine my_while (σ := List Ent × Nat × Tok × Tok) (fun c => (hl, listOf (c.1.map (·.1)).toArray n) :: rest)
      (fun c => [((Str.ofString "childpos"), .int (2 * (c.2.1 : Int) + 1) c.2.2.2), ((Str.ofString "endpos"), .int es.length t3), ((Str.ofString "pos"), .int c.2.1 c.2.2.1), ((Str.ofString "newitem"), (es.getD ps default).1), ((Str.ofString "startpos"), .int ps t2), ((Str.ofString "heap"), .ref hl)])
      (fun c => (∀ e ∈ c.1, e ∈ es) ∧ c.1.length = es.length ∧ c.2.1 < es.length ∧ ∃ f, es.length ≤ f + c.2.1 ∧ suLoop entLt es.length f c.1 c.2.1 = suLoop entLt es.length es.length es ps)
      (fun c => es.length - c.2.1) (es, ps, t2, _) F3 N3 (by kst_all) ⟨fun _ h => h, rfl, hps, es.length, by dsimp only; omega, rfl⟩ ?_
    rintro ⟨es', p', t', t''⟩ u h tk ⟨hf, hlen', hp', f, hpf, hfix⟩ F4 N4
    dsimp only at hf hlen' hp' hpf hfix F4 N4
    repeat ((first | (with_reducible show wpAny _ _ _ _ _ _) | (with_reducible show ite _ _ _)); (fail_if_success (with_reducible show wpAny _ _ (exec (PySem.Stmt.While _ _ _ _) _) _ _ _)); (fail_if_success (with_reducible show wpAny _ _ (pyIter _) _ _ _)); walk1; (try dsimp only))
    · rename_i hc hr
      rename Fr _ _ _ _ => F5
      rename News _ _ _ _ => N5
      have h1 : 2 * p' + 1 < es'.length := by omega
      have h2 : 2 * p' + 2 < es'.length := by omega
      refine ent_item N5 (.head _) (2 * p' + 1) (by omega) h1 (by omega) ?_
      repeat ((first | (with_reducible show wpAny _ _ _ _ _ _) | (with_reducible show ite _ _ _)); (fail_if_success (with_reducible show wpAny _ _ (exec (PySem.Stmt.While _ _ _ _) _) _ _ _)); (fail_if_success (with_reducible show wpAny _ _ (pyIter _) _ _ _)); walk1; (try dsimp only))
      refine ent_item N5 (.head _) (2 * p' + 2) (by omega) h2 (by omega) ?_
      refine lt_tri N5 (fun _ h => .tail _ h) (hes _ (hf _ (getD_mem h1))) (hes _ (hf _ (getD_mem h2))) (by ktr_units) ?_
      repeat ((first | (with_reducible show wpAny _ _ _ _ _ _) | (with_reducible show ite _ _ _)); (fail_if_success (with_reducible show wpAny _ _ (exec (PySem.Stmt.While _ _ _ _) _) _ _ _)); (fail_if_success (with_reducible show wpAny _ _ (pyIter _) _ _ _)); walk1; (try dsimp only))
      · rename triLt _ _ = _ => hlt
        rename Fr _ _ _ _ => F7
        rename News _ _ _ _ => N7
        have hch : suChild entLt es.length es' p' = 2 * p' + 2 := by
          unfold suChild entLt
          rw [hlt]; simp; omega
        have hcl : 2 * p' + 2 < es'.length := by omega
        have ec : 2 * (p' : Int) + 1 + 1 = ((2 * p' + 2 : Nat) : Int) := by omega
        rw [ec] at F7
        refine ent_item N7 (.head _) (2 * p' + 2) (by omega) hcl (by omega) ?_
        repeat ((first | (with_reducible show wpAny _ _ _ _ _ _) | (with_reducible show ite _ _ _)); (fail_if_success (with_reducible show wpAny _ _ (exec (PySem.Stmt.While _ _ _ _) _) _ _ _)); (fail_if_success (with_reducible show wpAny _ _ (pyIter _) _ _ _)); walk1; (try dsimp only))
        refine ent_set F7 N7 hne p' rfl (by omega) (by omega) (es'.getD (2 * p' + 2) default) rfl ?_
        intro h8 F8 N8
        repeat ((first | (with_reducible show wpAny _ _ _ _ _ _) | (with_reducible show ite _ _ _)); (fail_if_success (with_reducible show wpAny _ _ (exec (PySem.Stmt.While _ _ _ _) _) _ _ _)); (fail_if_success (with_reducible show wpAny _ _ (pyIter _) _ _ _)); walk1; (try dsimp only))
        rename Fr _ _ _ _ => F9
        rename News _ _ _ _ => N9
        refine w_end (es'.set p' (es'.getD (2 * p' + 2) default), 2 * p' + 2, _, _) F9 N9 (by kst_all) ?_ (by dsimp only; omega)
        refine ⟨?_, by simpa using hlen', by dsimp only; omega, ?_⟩
        · intro e he
          rcases mem_set_of he with h | rfl
          · exact hf e h
          · exact hf _ (getD_mem hcl)
        · cases f with
          | zero => omega
          | succ f =>
            refine ⟨f, by dsimp only; omega, ?_⟩
            rw [← hfix, suLoop, if_pos (by omega), hch]
      · rename triLt _ _ = _ => hlt
        repeat ((first | (with_reducible show wpAny _ _ _ _ _ _) | (with_reducible show ite _ _ _)); (fail_if_success (with_reducible show wpAny _ _ (exec (PySem.Stmt.While _ _ _ _) _) _ _ _)); (fail_if_success (with_reducible show wpAny _ _ (pyIter _) _ _ _)); walk1; (try dsimp only))
        rename Fr _ _ _ _ => F7
        rename News _ _ _ _ => N7
        have hch : suChild entLt es.length es' p' = 2 * p' + 1 := by
          unfold suChild entLt
          rw [hlt]; simp
        have hcl : 2 * p' + 1 < es'.length := by omega
        have ec : 2 * (p' : Int) + 1 = ((2 * p' + 1 : Nat) : Int) := by omega
        rw [ec] at F7
        refine ent_item N7 (.head _) (2 * p' + 1) (by omega) hcl (by omega) ?_
        repeat ((first | (with_reducible show wpAny _ _ _ _ _ _) | (with_reducible show ite _ _ _)); (fail_if_success (with_reducible show wpAny _ _ (exec (PySem.Stmt.While _ _ _ _) _) _ _ _)); (fail_if_success (with_reducible show wpAny _ _ (pyIter _) _ _ _)); walk1; (try dsimp only))
        refine ent_set F7 N7 hne p' rfl (by omega) (by omega) (es'.getD (2 * p' + 1) default) rfl ?_
        intro h8 F8 N8
        repeat ((first | (with_reducible show wpAny _ _ _ _ _ _) | (with_reducible show ite _ _ _)); (fail_if_success (with_reducible show wpAny _ _ (exec (PySem.Stmt.While _ _ _ _) _) _ _ _)); (fail_if_success (with_reducible show wpAny _ _ (pyIter _) _ _ _)); walk1; (try dsimp only))
        rename Fr _ _ _ _ => F9
        rename News _ _ _ _ => N9
        refine w_end (es'.set p' (es'.getD (2 * p' + 1) default), 2 * p' + 1, _, _) F9 N9 (by kst_all) ?_ (by dsimp only; omega)
        refine ⟨?_, by simpa using hlen', by dsimp only; omega, ?_⟩
        · intro e he
          rcases mem_set_of he with h | rfl
          · exact hf e h
          · exact hf _ (getD_mem hcl)
        · cases f with
          | zero => omega
          | succ f =>
            refine ⟨f, by dsimp only; omega, ?_⟩
            rw [← hfix, suLoop, if_pos (by omega), hch]
    · rename_i hc hr
      repeat ((first | (with_reducible show wpAny _ _ _ _ _ _) | (with_reducible show ite _ _ _)); (fail_if_success (with_reducible show wpAny _ _ (exec (PySem.Stmt.While _ _ _ _) _) _ _ _)); (fail_if_success (with_reducible show wpAny _ _ (pyIter _) _ _ _)); walk1; (try dsimp only))
      rename Fr _ _ _ _ => F7
      rename News _ _ _ _ => N7
      have hch : suChild entLt es.length es' p' = 2 * p' + 1 := by
        unfold suChild entLt
        rw [if_neg]; simp; omega
      have hcl : 2 * p' + 1 < es'.length := by omega
      have ec : 2 * (p' : Int) + 1 = ((2 * p' + 1 : Nat) : Int) := by omega
      rw [ec] at F7
      refine ent_item N7 (.head _) (2 * p' + 1) (by omega) hcl (by omega) ?_
      repeat ((first | (with_reducible show wpAny _ _ _ _ _ _) | (with_reducible show ite _ _ _)); (fail_if_success (with_reducible show wpAny _ _ (exec (PySem.Stmt.While _ _ _ _) _) _ _ _)); (fail_if_success (with_reducible show wpAny _ _ (pyIter _) _ _ _)); walk1; (try dsimp only))
      refine ent_set F7 N7 hne p' rfl (by omega) (by omega) (es'.getD (2 * p' + 1) default) rfl ?_
      intro h8 F8 N8
      repeat ((first | (with_reducible show wpAny _ _ _ _ _ _) | (with_reducible show ite _ _ _)); (fail_if_success (with_reducible show wpAny _ _ (exec (PySem.Stmt.While _ _ _ _) _) _ _ _)); (fail_if_success (with_reducible show wpAny _ _ (pyIter _) _ _ _)); walk1; (try dsimp only))
      rename Fr _ _ _ _ => F9
      rename News _ _ _ _ => N9
      refine w_end (es'.set p' (es'.getD (2 * p' + 1) default), 2 * p' + 1, _, _) F9 N9 (by kst_all) ?_ (by dsimp only; omega)
      refine ⟨?_, by simpa using hlen', by dsimp only; omega, ?_⟩
      · intro e he
        rcases mem_set_of he with h | rfl
        · exact hf e h
        · exact hf _ (getD_mem hcl)
      · cases f with
        | zero => omega
        | succ f =>
          refine ⟨f, by dsimp only; omega, ?_⟩
          rw [← hfix, suLoop, if_pos (by omega), hch]
    · rename_i hc
      refine ⟨rfl, (es', p', t', t''), _, _, _, rfl, hf, hlen', hp', ?_, fr_k F4 (by kst_all), N4⟩
      have hcN : ¬ 2 * p' + 1 < es.length := by omega
      rw [← hfix]
      cases f with
      | zero => rfl
      | succ f => rw [suLoop, if_neg hcN]
  case after =>
    rintro f s' ⟨rfl, ⟨es', p', t', t''⟩, h, tk, u, rfl, hf, hlen', hp', hfix, F4, N4⟩
    dsimp only at hlen' hp' hfix F4 N4
    dsimp only
    repeat ((first | (with_reducible show wpAny _ _ _ _ _ _) | (with_reducible show ite _ _ _)); (fail_if_success (with_reducible show wpAny _ _ (exec (PySem.Stmt.While _ _ _ _) _) _ _ _)); (fail_if_success (with_reducible show wpAny _ _ (pyIter _) _ _ _)); walk1; (try dsimp only))
    refine ent_set F4 N4 hne p' rfl (by omega) (by omega) (es.getD ps default) rfl ?_
    intro h6 F6 N6
    repeat ((first | (with_reducible show wpAny _ _ _ _ _ _) | (with_reducible show ite _ _ _)); (fail_if_success (with_reducible show wpAny _ _ (exec (PySem.Stmt.While _ _ _ _) _) _ _ _)); (fail_if_success (with_reducible show wpAny _ _ (pyIter _) _ _ _)); walk1; (try dsimp only))
    refine ⟨X1.keeps F6.keep, ?_⟩
    have hes6 : ∀ e ∈ es'.set p' (es.getD ps default), DatIn rest e.1 (triD e.2) := by
      intro e he
      rcases mem_set_of he with h | rfl
      · exact hes _ (hf e h)
      · exact hes _ (getD_mem hps)
    k_dflt (refine siftdown_ok B1 F6 X1 T1 rfl ?_ ?_ N6 hne hes6 ps p' ?_ ?_ ?_)
    · ktr_room
    · ktr_units
    · simp; omega
    · simp; omega
    intro h7 tk7 F7 N7
    repeat ((first | (with_reducible show wpAny _ _ _ _ _ _) | (with_reducible show ite _ _ _)); (fail_if_success (with_reducible show wpAny _ _ (exec (PySem.Stmt.While _ _ _ _) _) _ _ _)); (fail_if_success (with_reducible show wpAny _ _ (pyIter _) _ _ _)); walk1; (try dsimp only))
    refine leaveK_ F7 N7 fun F8 N8 => ?_
    have e : siftup entLt es ps = siftdown entLt (es'.set p' (es.getD ps default)) ps p' := by unfold siftup; rw [hfix]
    refine ret _ _ F8 ?_
    rw [e]; exact N8
end Mine
end PartS3
section PartS4
open PySem PySem.W PyProof.Rows
set_option maxRecDepth 100000
set_option Elab.async false
namespace Mine
theorem fill4 (P : Params) : (fun (_ : OpenLaw) => nsIn (Mine.hd.heap_39 P) mainGlobals (Str.ofString "zz")) PySem.Challenge.rw_oy0031_01 = (fun (_ : OpenLaw) => nsIn (Mine.hd.heap_39 P) mainGlobals (Str.ofString "zz")) PySem.Challenge.rw_oy0031_01 := by
  k_fill
  rfl
section
variable {prog : Program} {w : World} {A : Around} {E : Value → Shared → Prop} {s : Shared} {h₀ : Heap} {L D : Addr} {m : Str → Option Value} {news rest : List (Addr × Obj)} {n : Nat}
theorem ent_pop {es : List Ent} {e : Ent} {Q : Value → Shared → Prop} (F : Fr h₀ L s.heap m) (N : News h₀ L s.heap ((D, listOf ((es ++ [e]).map (·.1)).toArray n) :: rest)) (hne : ∀ p ∈ rest, p.1 ≠ D) (h64 : es.length ≤ 64)
    (h : ∀ h', Fr h₀ L h' m → News h₀ L h' ((D, listOf (es.map (·.1)).toArray (n + 1)) :: rest) → Q e.1 { s with heap := h' }) : wpAny (model prog w) A (call (.builtin "list.pop") [.ref D]) Q E s := by
  refine kl_pop F N (p := es.map (·.1)) (y := e.1) ?_ (Upd.head hne) ?_ h
  · simpa using kpa_last e.1 (es.map (·.1))
  · rw [PySem.sizeLine_eq]; simp; omega
end
def popTop (es : List Ent) (e : Ent) : Ent := match es with | [] => e | x :: _ => x
def popRest (es : List Ent) (e : Ent) : List Ent := match es with | [] => [] | _ :: r => siftup entLt (e :: r) 0

set_option maxHeartbeats 4000000 in
theorem heappop_ok {prog : Program} {w : World} {p : Program} {loose : List Str} {mean : ExcName → Option Value} {mg mb : Str → Option Value}
   {dp un : Nat} {gd : Option (List Code)} {cn : Str} {cs : Scope} {a : Addr} {ccd : Value} {cl : List (Str × Addr)} {outer : List Env} {A₀ : Around} {base h₀ : Heap} {L : Addr} {m : Str → Option Value} {s : Shared} {Q E : Value → Shared → Prop}
   (B : Below A₀ base outer h₀) (F : Fr h₀ L s.heap m) (X : (Mine.hd.heap_39 w.params).In h₀) (T : Top p loose mean mg mb h₀) (hk : cs.kind = .function) (hd : dp + 5 < recursionLimit) (hu : un + 96 < cLine)
   {hl : Addr} {es : List Ent} {e : Ent} {n : Nat} {rest : List (Addr × Obj)} (N : News h₀ L s.heap ((hl, listOf ((es ++ [e]).map (·.1)).toArray n) :: rest)) (hne : ∀ p ∈ rest, p.1 ≠ hl) (hes : ∀ x ∈ es ++ [e], DatIn rest x.1 (triD x.2))
   (hlen : es.length ≤ 60)
   (ret : ∀ h' tk' n', Fr h₀ L h' m → News h₀ L h' ((hl, listOf ((popRest es e).map (·.1)).toArray n') :: rest) → Q (popTop es e).1 { s with heap := h', toks := tk' }) :
   wpAny (model prog w) (ktrTop dp un gd cn cs L a ccd cl outer) (call (.ref 28) [.ref hl]) Q E s := by
  refine wpAny_call ?_
  k_dflt ktr_enter
  generalize s.toks + List.length _ = tk0
  rename_i g L1 h1 FG F1 N1 B1 X1 T1
  replace F1 := fr_binds F1 (l := [((Str.ofString "heap"), .ref hl)]) rfl
  repeat ((first | (with_reducible show wpAny _ _ _ _ _ _) | (with_reducible show ite _ _ _)); (fail_if_success (with_reducible show wpAny _ _ (exec (PySem.Stmt.While _ _ _ _) _) _ _ _)); (fail_if_success (with_reducible show wpAny _ _ (pyIter _) _ _ _)); walk1; (try dsimp only))
  refine ent_pop F1 N1 hne (by omega) ?_
  intro h2 F2 N2
  cases es with
  | nil =>
    repeat ((first | (with_reducible show wpAny _ _ _ _ _ _) | (with_reducible show ite _ _ _)); (fail_if_success (with_reducible show wpAny _ _ (exec (PySem.Stmt.While _ _ _ _) _) _ _ _)); (fail_if_success (with_reducible show wpAny _ _ (pyIter _) _ _ _)); walk1; (try dsimp only))
    rename Fr _ _ _ _ => F3
    rename News _ _ _ _ => N3
    refine leaveK_ F3 N3 fun F4 N4 => ret _ _ _ F4 N4
  | cons x r =>
    repeat ((first | (with_reducible show wpAny _ _ _ _ _ _) | (with_reducible show ite _ _ _)); (fail_if_success (with_reducible show wpAny _ _ (exec (PySem.Stmt.While _ _ _ _) _) _ _ _)); (fail_if_success (with_reducible show wpAny _ _ (pyIter _) _ _ _)); walk1; (try dsimp only))
    · rename Fr _ _ _ _ => F3
      rename News _ _ _ _ => N3
      refine ent_set (es := x :: r) F3 N3 hne 0 rfl (by simp) (by omega) e rfl ?_
      intro h4 F4 N4
      have hes4 : ∀ y ∈ (x :: r).set 0 e, DatIn rest y.1 (triD y.2) := by
        intro y hy
        refine hes y ?_
        rcases mem_set_of hy with h | rfl
        · exact List.mem_append.mpr (.inl h)
        · simp
      repeat ((first | (with_reducible show wpAny _ _ _ _ _ _) | (with_reducible show ite _ _ _)); (fail_if_success (with_reducible show wpAny _ _ (exec (PySem.Stmt.While _ _ _ _) _) _ _ _)); (fail_if_success (with_reducible show wpAny _ _ (pyIter _) _ _ _)); walk1; (try dsimp only))
      refine ⟨X1.keeps F4.keep, ?_⟩
      k_dflt (refine siftup_ok B1 F4 X1 T1 rfl ?_ ?_ N4 hne hes4 0 ?_ ?_ ?_)
      · ktr_room
      · ktr_units
      · simp
      · simp at hlen ⊢; omega
      intro h5 tk5 F5 N5
      repeat ((first | (with_reducible show wpAny _ _ _ _ _ _) | (with_reducible show ite _ _ _)); (fail_if_success (with_reducible show wpAny _ _ (exec (PySem.Stmt.While _ _ _ _) _) _ _ _)); (fail_if_success (with_reducible show wpAny _ _ (pyIter _) _ _ _)); walk1; (try dsimp only))
      refine leaveK_ F5 N5 fun F6 N6 => ret _ _ _ F6 N6
    · rename List.isEmpty _ = _ => hx
      simp at hx

set_option maxHeartbeats 4000000 in
theorem heapreplace_ok {prog : Program} {w : World} {p : Program} {loose : List Str} {mean : ExcName → Option Value} {mg mb : Str → Option Value}
   {dp un : Nat} {gd : Option (List Code)} {cn : Str} {cs : Scope} {a : Addr} {ccd : Value} {cl : List (Str × Addr)} {outer : List Env} {A₀ : Around} {base h₀ : Heap} {L : Addr} {m : Str → Option Value} {s : Shared} {Q E : Value → Shared → Prop}
   (B : Below A₀ base outer h₀) (F : Fr h₀ L s.heap m) (X : (Mine.hd.heap_39 w.params).In h₀) (T : Top p loose mean mg mb h₀) (hk : cs.kind = .function) (hd : dp + 5 < recursionLimit) (hu : un + 96 < cLine)
   {hl : Addr} {es : List Ent} {x e : Ent} {n : Nat} {rest : List (Addr × Obj)} (N : News h₀ L s.heap ((hl, listOf ((x :: es).map (·.1)).toArray n) :: rest)) (hne : ∀ p ∈ rest, p.1 ≠ hl) (hes : ∀ y ∈ e :: es, DatIn rest y.1 (triD y.2))
   (hlen : es.length ≤ 60)
   (ret : ∀ h' tk', Fr h₀ L h' m → News h₀ L h' ((hl, listOf ((siftup entLt (e :: es) 0).map (·.1)).toArray n) :: rest) → Q x.1 { s with heap := h', toks := tk' }) :
   wpAny (model prog w) (ktrTop dp un gd cn cs L a ccd cl outer) (call (.ref 35) [.ref hl, e.1]) Q E s := by
  refine wpAny_call ?_
  k_dflt ktr_enter
  generalize s.toks + List.length _ = tk0
  rename_i g L1 h1 FG F1 N1 B1 X1 T1
  replace F1 := fr_binds F1 (l := [((Str.ofString "item"), e.1), ((Str.ofString "heap"), .ref hl)]) rfl
  repeat ((first | (with_reducible show wpAny _ _ _ _ _ _) | (with_reducible show ite _ _ _)); (fail_if_success (with_reducible show wpAny _ _ (exec (PySem.Stmt.While _ _ _ _) _) _ _ _)); (fail_if_success (with_reducible show wpAny _ _ (pyIter _) _ _ _)); walk1; (try dsimp only))
  rename Fr _ _ _ _ => F3
  rename News _ _ _ _ => N3
  refine ent_set (es := x :: es) F3 N3 hne 0 rfl (by simp) (by simpa using Nat.le_trans hlen (by omega)) e rfl ?_
  intro h4 F4 N4
  repeat ((first | (with_reducible show wpAny _ _ _ _ _ _) | (with_reducible show ite _ _ _)); (fail_if_success (with_reducible show wpAny _ _ (exec (PySem.Stmt.While _ _ _ _) _) _ _ _)); (fail_if_success (with_reducible show wpAny _ _ (pyIter _) _ _ _)); walk1; (try dsimp only))
  refine ⟨X1.keeps F4.keep, ?_⟩
  k_dflt (refine siftup_ok (es := e :: es) B1 F4 X1 T1 rfl ?_ ?_ N4 hne hes 0 ?_ ?_ ?_)
  · ktr_room
  · ktr_units
  · simp
  · simp; omega
  intro h5 tk5 F5 N5
  repeat ((first | (with_reducible show wpAny _ _ _ _ _ _) | (with_reducible show ite _ _ _)); (fail_if_success (with_reducible show wpAny _ _ (exec (PySem.Stmt.While _ _ _ _) _) _ _ _)); (fail_if_success (with_reducible show wpAny _ _ (pyIter _) _ _ _)); walk1; (try dsimp only))
  refine leaveK_ F5 N5 fun F6 N6 => ret _ _ F6 N6
end Mine
end PartS4
section PartB4
open PySem PySem.W PyProof.Rows
set_option maxRecDepth 100000
set_option Elab.async false
namespace Mine
def FEnd {σ : Type} (h₀ : Heap) (L : Addr) (s : Shared) (Led : σ → List (Addr × Obj)) (ps : σ → List (Str × Value)) (Inv : σ → Prop) (own : List (Addr × Obj)) (s₂ : Shared) : Prop :=
  ∃ (c' : σ) (h' : Heap) (tk : Nat) (m' : Str → Option Value), s₂ = { s with heap := h', toks := tk } ∧ Fr h₀ L h' m' ∧ News h₀ L h' (Led c' ++ own) ∧ OwnOff own ((Led c').map (·.1)) ∧ (∀ p ∈ ps c', m' p.1 = some p.2) ∧ Inv c'
def FPost {σ : Type} (h₀ : Heap) (L : Addr) (s : Shared) (Led : σ → List (Addr × Obj)) (ps : σ → List (Str × Value)) (Inv : σ → Prop) (own : List (Addr × Obj)) (Q : Flow → Shared → Prop) (f : Flow) (s₂ : Shared) : Prop :=
  match f with
  | .ret v => Q (.ret v) s₂
  | .brk => Q .next s₂
  | _ => FEnd h₀ L s Led ps Inv own s₂
theorem f_end {σ : Type} {h₀ : Heap} {L : Addr} {s : Shared} {Led : σ → List (Addr × Obj)} {ps : σ → List (Str × Value)} {Inv : σ → Prop} {own : List (Addr × Obj)} {h' : Heap} {tk : Nat} {m' : Str → Option Value} (c' : σ)
    (F : Fr h₀ L h' m') (N : News h₀ L h' (Led c' ++ own)) (ho : OwnOff own ((Led c').map (·.1))) (hk : ∀ p ∈ ps c', m' p.1 = some p.2) (hp : Inv c') :
    FEnd h₀ L s Led ps Inv own { s with heap := h', toks := tk } := ⟨c', h', tk, m', rfl, F, N, ho, hk, hp⟩
section
variable {prog : Program} {w : World} {A : Around} {E : Value → Shared → Prop} {s : Shared} {env : Env} {h₀ : Heap} {x : Str} {body : List Stmt} {Q : Flow → Shared → Prop}
theorem for_list {σ : Type} {l : Addr} {vs : List Value} {nn : Nat} {m₀ : Str → Option Value} (Led : σ → List (Addr × Obj)) (ps : σ → List (Str × Value)) (Inv : Nat → σ → Prop) (c₀ : σ)
    (hh : A.handled = none) (hl : ∀ c, (l, listOf vs.toArray nn) ∈ Led c) (F : Fr h₀ env.locals s.heap m₀) (N : News h₀ env.locals s.heap (Led c₀)) (hk : ∀ p ∈ ps c₀, m₀ p.1 = some p.2) (h0 : Inv 0 c₀)
    (turn : ∀ i v c (u : Str → Option Value) h tk own, vs[i]? = some v → OwnOff own ((Led c).map (·.1)) → Inv i c → Fr h₀ env.locals h (kstB u ((x, v) :: ps c)) → News h₀ env.locals h (Led c ++ own) →
      wpAny (model prog w) A (execs body env) (FPost h₀ env.locals s Led ps (Inv (i + 1)) own Q) E { s with heap := h, toks := tk })
    (done : ∀ c (u : Str → Option Value) h tk, Inv vs.length c → Fr h₀ env.locals h (kstB u (ps c)) → News h₀ env.locals h (Led c) → Q .next { s with heap := h, toks := tk }) :
    wpAny (model prog w) A (pyIter (.ref l)) (fun it s₂ => LoopAtV prog w A h₀ env x body Q E it s₂) E s := by
  refine kdl_iter (news := Led c₀) (fun i m nx => ∃ c : σ, nx = Led c ∧ (∀ p ∈ ps c, m p.1 = some p.2) ∧ Inv i c) hh (hl c₀) F N ⟨c₀, rfl, hk, h0⟩ ?_ ?_
  · rintro i v m₁ nx h tk own hv hoff _ ⟨c, rfl, h1, hp'⟩ F₁ N₁
    have F₂ : Fr h₀ env.locals h (kstB m₁ ((x, v) :: ps c)) := by
      have e : kstB m₁ ((x, v) :: ps c) = fun y => if y = x then some v else m₁ y := by
        funext y
        show (if y = x then some v else kstB m₁ (ps c) y) = _
        rw [kstB_eq h1 fun _ => rfl]
      rw [e]; exact F₁
    refine wpAny_mono (turn i v c m₁ h tk own hv hoff hp' F₂ N₁) (fun f s₂ p => ?_) fun _ _ x => x
    have up : FEnd h₀ env.locals s Led ps (Inv (i + 1)) own s₂ → InvEndG h₀ env.locals (fun m' nx => (l, listOf vs.toArray nn) ∈ nx ∧ ∃ c : σ, nx = Led c ∧ (∀ p ∈ ps c, m' p.1 = some p.2) ∧ Inv (i + 1) c) own { s with heap := h, toks := tk } s₂ := by
      rintro ⟨c', h', tk', m', rfl, F', N', ho, hk', hp⟩
      exact ⟨h', tk', m', _, Led c', rfl, F', N', fun p hp => List.mem_append.mpr (.inl hp), fun p hp => List.mem_append.mpr (.inr hp), ho, hl c', c', rfl, hk', hp⟩
    cases f with
    | ret v => exact p
    | brk => exact p
    | next => exact up p
    | cont => exact up p
  · rintro m₁ nx h tk ⟨c, rfl, h1, hp'⟩ F₁ N₁
    exact done c m₁ h tk hp' (fr_k F₁ h1) N₁

theorem for_iter {σ : Type} {I : Addr} {n : Nat} {P : Nat → Value → Prop} {St : Nat → Heap → Prop} {m₀ : Str → Option Value} (Led : σ → List (Addr × Obj)) (ps : σ → List (Str × Value)) (Inv : Nat → σ → Prop) (c₀ : σ)
    (W : Walks prog w A I [I] [I] n P St) (hob : ∀ i h, St i h → ∃ o, h.get? I = some o) (hLf : env.locals ≠ I) (hwr : h₀.get? I = none) (hnw : ∀ p ∈ Led c₀, p.1 ≠ I) (hst : St 0 s.heap)
    (F : Fr h₀ env.locals s.heap m₀) (N : News h₀ env.locals s.heap (Led c₀)) (hk : ∀ p ∈ ps c₀, m₀ p.1 = some p.2) (h0 : Inv 0 c₀)
    (turn : ∀ i v c (u : Str → Option Value) h tk own, i < n → P i v → OwnOff own ((Led c).map (·.1)) → Inv i c → Fr h₀ env.locals h (kstB u ((x, v) :: ps c)) → News h₀ env.locals h (Led c ++ own) →
      wpAny (model prog w) A (execs body env) (FPost h₀ env.locals s Led ps (Inv (i + 1)) own Q) E { s with heap := h, toks := tk })
    (done : ∀ c (u : Str → Option Value) h tk, Inv n c → Fr h₀ env.locals h (kstB u (ps c)) → News h₀ env.locals h (Led c) → Q .next { s with heap := h, toks := tk }) :
    LoopAtV prog w A h₀ env x body Q E (.ref I) s := by
  refine kdr_loop (fun i m nx => ∃ c : σ, nx = Led c ∧ (∀ p ∈ ps c, m p.1 = some p.2) ∧ Inv i c) W (fun _ h => h) (fun _ h => h) (fun i h st b hb => by rw [List.mem_singleton.mp hb]; exact hob i h st) (fun h => hLf (List.mem_singleton.mp h)) (fun b hb => by rw [List.mem_singleton.mp hb]; exact hwr)
    (fun p hp h => hnw p hp (List.mem_singleton.mp h)) hst F N ⟨c₀, rfl, hk, h0⟩ ?_ ?_
  · rintro i v m₁ nx h tk own hi hv hoff ⟨c, rfl, h1, hp'⟩ F₁ N₁
    have F₂ : Fr h₀ env.locals h (kstB m₁ ((x, v) :: ps c)) := by
      have e : kstB m₁ ((x, v) :: ps c) = fun y => if y = x then some v else m₁ y := by
        funext y
        show (if y = x then some v else kstB m₁ (ps c) y) = _
        rw [kstB_eq h1 fun _ => rfl]
      rw [e]; exact F₁
    refine wpAny_mono (turn i v c m₁ h tk own hi hv hoff hp' F₂ N₁) (fun f s₂ p => ?_) fun _ _ x => x
    have up : FEnd h₀ env.locals s Led ps (Inv (i + 1)) own s₂ → InvEndG h₀ env.locals (fun m' nx => ∃ c : σ, nx = Led c ∧ (∀ p ∈ ps c, m' p.1 = some p.2) ∧ Inv (i + 1) c) own { s with heap := h, toks := tk } s₂ := by
      rintro ⟨c', h', tk', m', rfl, F', N', ho, hk', hp⟩
      exact ⟨h', tk', m', _, Led c', rfl, F', N', fun p hp => List.mem_append.mpr (.inl hp), fun p hp => List.mem_append.mpr (.inr hp), ho, c', rfl, hk', hp⟩
    cases f with
    | ret v => exact p
    | brk => exact p
    | next => exact up p
    | cont => exact up p
  · rintro m₁ nx h tk ⟨c, rfl, h1, hp'⟩ F₁ N₁
    exact done c m₁ h tk hp' (fr_k F₁ h1) N₁
end
end Mine
end PartB4
section PartB5
open PySem PySem.W PyProof.Rows
set_option maxRecDepth 100000
set_option Elab.async false
namespace Mine
section
variable {prog : Program} {w : World} {A : Around} {E : Value → Shared → Prop} {s : Shared}
theorem sub_ri_reversed : isSubtype (.type "range_iterator") (.type "reversed") = pure false := by rw [isSubtype_type]; kernel_rfl
def riObj (x left step : Int) : Obj := { cls := .type "range_iterator", dict := none, data := .fields #[rawInt x, rawInt left, rawInt step], slots := #[] }
theorem wp_rangeFields {r : Addr} {a b c : Int} {t u v : Tok} {Q : Int × Int × Int → Shared → Prop} (hr : IsRange s.heap r a b c t u v) (h : Q (a, b, c) s) : wpAny (model prog w) A (Builtin.Range.rangeFields (.ref r)) Q E s := by
  unfold Builtin.Range.rangeFields
  refine wpAny_bind (wpAny_field hr rfl (x := .int a t) rfl ?_)
  refine wpAny_bind (m := asInt? (.int a t)) (wpAny_pure ?_)
  refine wpAny_bind (wpAny_field hr rfl (x := .int b u) rfl ?_)
  refine wpAny_bind (m := asInt? (.int b u)) (wpAny_pure ?_)
  refine wpAny_bind (wpAny_field hr rfl (x := .int c v) rfl ?_)
  refine wpAny_bind (m := asInt? (.int c v)) (wpAny_pure ?_)
  exact wpAny_pure h
theorem call_range_reversed {r : Addr} {n : Nat} {t u v : Tok} {Q : Value → Shared → Prop} (hr : IsRange s.heap r 0 (n : Int) 1 t u v) (hn : n < 2 ^ 60)
    (h : Q (.ref s.heap.objs.size) { s with heap := s.heap.push (riObj ((n : Int) - 1) n (-1)) }) : wpAny (model prog w) A (call (.builtin "range.__reversed__") [.ref r]) Q E s := by
  refine wpAny_call_entry F.slot_range_reversed (T := "range") ⟨_, hr, rfl⟩ F.entry_range_reversed ?_ (F.args_range_reversed_1 _)
  unfold Builtin.«range.__reversed__»
  refine wpAny_bind (wpAny_of_eq (a := Value.ref r) rfl ?_)
  have hsz : Builtin.Range.rangeSize 0 (n : Int) 1 = (n : Int) := by
    unfold Builtin.Range.rangeSize
    rw [if_pos (by omega)]
    split
    · rw [Int.ediv_one]; omega
    · omega
  refine wpAny_bind (wp_rangeFields hr ?_)
  dsimp only
  rw [hsz]
  have hs : (Builtin.Range.rangeFitsLong 0 && Builtin.Range.rangeFitsLong (n : Int) && Builtin.Range.rangeFitsLong 1 && Builtin.Range.rangeFitsLong (-1) && Builtin.Range.rangeFitsLong (0 - 1) && Builtin.Range.rangeFitsLong (n : Int)) = true := by
    have : Builtin.Range.rangeFitsLong (n : Int) = true := by unfold Builtin.Range.rangeFitsLong; simp; omega
    rw [this]; decide
  rw [hs]
  simp only [Bool.not_true, Bool.false_eq_true, if_false, if_true]
  have e1 : (0 : Int) + ((n : Int) - 1) * 1 = (n : Int) - 1 := by omega
  rw [e1]
  refine wpAny_bind ?_
  refine wpAny_newObj_type (wpAny_pure ⟨_, rfl, h⟩)

theorem code_reversed_new {r : Addr} {n : Nat} {t u v : Tok} {Q₁ : Value → Shared → Prop} (hr : IsRange s.heap r 0 (n : Int) 1 t u v) (hn : n < 2 ^ 60)
    (h : Q₁ (.ref s.heap.objs.size) { s with heap := s.heap.push (riObj ((n : Int) - 1) n (-1)) }) :
    codeAny (model prog w) A (.call (.builtin "reversed.__new__") ⟨[.type "reversed", .ref r], []⟩) (wants Q₁ E) s := by
  refine codeAny_of_tree ?_
  show wpAny _ A.in1 (do checkBuiltinCall "reversed.__new__" ⟨[.type "reversed", .ref r], []⟩; again (.builtin "reversed.__new__" ⟨[.type "reversed", .ref r], []⟩)) _ _ s
  refine wpAny_bind (wpAny_of_eq (F.newCall_reversed_1 _) (wpAny_pure ⟨plainId_quiet F.plain_reversed_new _, codeAny_builtin F.entry_reversed_new ?_⟩))
  rw [Around.under_plainId F.plain_reversed_new _]
  unfold Builtin.«reversed.__new__»
  refine wpAny_bind (wpAny_of_eq (newClass_reversed _) ?_)
  try dsimp only
  refine wpAny_bind (wpAny_of_eq (a := ()) (by first | rfl | kernel_rfl) ?_)
  refine wpAny_bind (wpAny_of_eq (a := ()) (by first | rfl | kernel_rfl) ?_)
  try dsimp only
  refine wpAny_bind (wpAny_specialOf (T := "range") ⟨_, hr, rfl⟩ F.slot_range_reversed.lookup ?_)
  try dsimp only
  refine wpAny_bind (wpAny_of_eq (F.slot_range_reversed.bind _) ?_)
  try dsimp only
  first
  | rw [if_neg (show ¬ ((Value.builtin "range.__reversed__" == Value.none) = true) from Bool.false_ne_true)]
  | (show wpAny _ _ (if (Value.builtin "range.__reversed__" == Value.none) = true then _ else _) _ _ _; rw [if_neg (show ¬ ((Value.builtin "range.__reversed__" == Value.none) = true) from Bool.false_ne_true)])
  refine wpAny_bind (wpAny_rule ?_)
  refine wpAny_bind (m := runValue (.call (.builtin "range.__reversed__") ⟨[.ref r], []⟩)) (show wpAny _ _ (call (.builtin "range.__reversed__") [.ref r]) _ _ _ from call_range_reversed hr hn ?_)
  first
  | exact wpAny_pure h
  | exact wpAny_bind (wpAny_pure (wpAny_pure h))

theorem call_reversed_range {r : Addr} {n : Nat} {t u v : Tok} {Q : Value → Shared → Prop} (hr : IsRange s.heap r 0 (n : Int) 1 t u v) (hn : n < 2 ^ 60)
    (h : Q (.ref s.heap.objs.size) { s with heap := s.heap.push (riObj ((n : Int) - 1) n (-1)) }) : wpAny (model prog w) A (call (.type "reversed") [.ref r]) Q E s := by
  refine callType_other (U := "range_iterator") (Q₁ := fun obj s₁ => obj = .ref s.heap.objs.size ∧ s₁ = { s with heap := s.heap.push (riObj ((n : Int) - 1) n (-1)) }) (by decide +kernel) F.create_reversed ⟨_, _, F.mro_reversed⟩ F.made_reversed sub_ri_reversed (F.typeCall_reversed_1 _) (code_reversed_new hr hn ⟨rfl, rfl⟩) ?_
  rintro obj s₁ ⟨rfl, rfl⟩
  exact ⟨⟨_, Heap.get?_push_size _ rfl, rfl⟩, h⟩
end
end Mine
end PartB5
section PartP2
set_option Elab.async false
set_option linter.unusedSectionVars false
namespace Mine
section
variable {α : Type} [Inhabited α] {lt : α → α → Bool}
theorem getD_set_self {l : List α} {i : Nat} {a d : α} (h : i < l.length) : (l.set i a).getD i d = a := by
  rw [List.getD_eq_getElem?_getD, List.getElem?_set_self h]; rfl
theorem getD_set_ne {l : List α} {i j : Nat} {a d : α} (h : i ≠ j) : (l.set i a).getD j d = l.getD j d := by
  rw [List.getD_eq_getElem?_getD, List.getElem?_set_ne h, ← List.getD_eq_getElem?_getD]
theorem set_getD_self {l : List α} {i : Nat} {d : α} (h : i < l.length) : l.set i (l.getD i d) = l := by
  rw [List.getD_eq_getElem?_getD, List.getElem?_eq_getElem h]; simp
theorem perm_move {l : List α} {i j : Nat} {x d : α} (hi : i < l.length) (hj : j < l.length) (hij : i ≠ j) : ((l.set i (l.getD j d)).set j x).Perm (l.set i x) := by
  have h := List.set_set_perm (as := l.set i x) (i := i) (j := j) (by simpa using hi) (by simpa using hj)
  have e1 : (l.set i x)[j]'(by simpa using hj) = l.getD j d := by
    rw [List.getElem_set_ne hij, List.getD_eq_getElem?_getD, List.getElem?_eq_getElem hj]; rfl
  have e2 : (l.set i x)[i]'(by simpa using hi) = x := List.getElem_set_self ..
  rw [e1, e2, List.set_set] at h
  exact h
theorem sdLoop_spec {x : α} {st : Nat} : ∀ (f : Nat) (l : List α) (p : Nat), p < l.length → (sdLoop lt x st f l p).1.length = l.length ∧ (sdLoop lt x st f l p).2 < l.length ∧ ((sdLoop lt x st f l p).1.set (sdLoop lt x st f l p).2 x).Perm (l.set p x)
  | 0, l, p, hp => ⟨rfl, hp, .refl _⟩
  | f + 1, l, p, hp => by
    rw [sdLoop]
    split
    · split
      · obtain ⟨a, b, c⟩ := sdLoop_spec f (l.set p (l.getD ((p - 1) / 2) default)) ((p - 1) / 2) (by simp; omega)
        refine ⟨by simpa using a, by simpa using b, c.trans (perm_move hp (by omega) (by omega))⟩
      · exact ⟨rfl, hp, .refl _⟩
    · exact ⟨rfl, hp, .refl _⟩
theorem siftdown_perm {l : List α} {st p : Nat} (hp : p < l.length) : (siftdown lt l st p).Perm l := by
  have h := (sdLoop_spec (lt := lt) (x := l.getD p default) (st := st) p l p hp).2.2
  rw [set_getD_self hp] at h
  exact h
theorem suChild_lt {n : Nat} {l : List α} {p : Nat} (h : 2 * p + 1 < n) : suChild lt n l p < n ∧ p < suChild lt n l p := by
  unfold suChild
  split
  · rename_i hc; simp at hc; omega
  · omega
theorem suLoop_spec {x : α} {n : Nat} : ∀ (f : Nat) (l : List α) (p : Nat), p < l.length → n = l.length → (suLoop lt n f l p).1.length = l.length ∧ (suLoop lt n f l p).2 < l.length ∧ ((suLoop lt n f l p).1.set (suLoop lt n f l p).2 x).Perm (l.set p x)
  | 0, l, p, hp, _ => ⟨rfl, hp, .refl _⟩
  | f + 1, l, p, hp, hn => by
    rw [suLoop]
    split
    · rename_i hc
      have hs := suChild_lt (lt := lt) (l := l) hc
      obtain ⟨a, b, c⟩ := suLoop_spec (x := x) f (l.set p (l.getD (suChild lt n l p) default)) (suChild lt n l p) (by simp; omega) (by simpa using hn)
      refine ⟨by simpa using a, by simpa using b, c.trans (perm_move hp (by omega) (by omega))⟩
    · exact ⟨rfl, hp, .refl _⟩
theorem siftup_perm {l : List α} {p : Nat} (hp : p < l.length) : (siftup lt l p).Perm l := by
  obtain ⟨a, b, c⟩ := suLoop_spec (lt := lt) (x := l.getD p default) l.length l p hp rfl
  unfold siftup
  refine (siftdown_perm (by simp; omega)).trans ?_
  rw [set_getD_self hp] at c
  exact c
def hfy (lt : α → α → Bool) : Nat → List α → List α
  | 0, l => l
  | k + 1, l => hfy lt k (siftup lt l k)
theorem hfy_perm : ∀ (k : Nat) (l : List α), k ≤ l.length → (hfy lt k l).Perm l
  | 0, l, _ => .refl _
  | k + 1, l, h => by
    have hp := siftup_perm (lt := lt) (l := l) (p := k) (by omega)
    exact (hfy_perm k _ (by rw [hp.length_eq]; omega)).trans hp

/-- lt as a strict order: le a b is lt b a = false -/
structure Swo (lt : α → α → Bool) : Prop where
  asym : ∀ a b, lt a b = true → lt b a = false
  tr : ∀ a b c, lt b a = false → lt c b = false → lt c a = false
def HeapFrom (lt : α → α → Bool) (l : List α) (k : Nat) : Prop := ∀ j, 1 ≤ j → j < l.length → k ≤ (j - 1) / 2 → lt (l.getD j default) (l.getD ((j - 1) / 2) default) = false
/-- all edges that do not touch the hole p -/
def Hole (lt : α → α → Bool) (l : List α) (k p : Nat) : Prop :=
  (∀ j, 1 ≤ j → j < l.length → k ≤ (j - 1) / 2 → j ≠ p → (j - 1) / 2 ≠ p → lt (l.getD j default) (l.getD ((j - 1) / 2) default) = false) ∧
  (k < p → ∀ c, 1 ≤ c → c < l.length → (c - 1) / 2 = p → lt (l.getD c default) (l.getD ((p - 1) / 2) default) = false)
/-- p lies under k -/
inductive Under (k : Nat) : Nat → Prop
  | self : Under k k
  | down {p : Nat} : 1 ≤ p → Under k ((p - 1) / 2) → Under k p
theorem Under.le {k p : Nat} (h : Under k p) : k ≤ p := by
  induction h with
  | self => exact Nat.le_refl _
  | down _ _ ih => omega
theorem Under.up {k p : Nat} (h : Under k p) (hp : k < p) : Under k ((p - 1) / 2) := by
  cases h with
  | self => omega
  | down _ h => exact h

theorem sd_heap (S : Swo lt) {x : α} {k : Nat} : ∀ (f : Nat) (l : List α) (p : Nat), p ≤ f → p < l.length → Under k p → Hole lt l k p → (∀ c, 1 ≤ c → c < l.length → (c - 1) / 2 = p → lt (l.getD c default) x = false) →
    HeapFrom lt ((sdLoop lt x k f l p).1.set (sdLoop lt x k f l p).2 x) k
  | f, l, p, hf, hp, hu, hH, hc => by
    have stop : (k < p → lt x (l.getD ((p - 1) / 2) default) = false) → HeapFrom lt (l.set p x) k := by
      intro hs j h1 h2 h3
      rw [List.length_set] at h2
      by_cases ej : j = p
      · subst ej
        have hu' := hu.le
        rw [getD_set_self hp, getD_set_ne (by omega)]
        exact hs (by omega)
      · by_cases ep : (j - 1) / 2 = p
        · rw [getD_set_ne (by omega), ep, getD_set_self hp]
          exact hc j h1 h2 ep
        · rw [getD_set_ne (by omega), getD_set_ne (by omega)]
          exact hH.1 j h1 h2 h3 ej ep
    cases f with
    | zero => exact stop (by omega)
    | succ f =>
      rw [sdLoop]
      split
      · rename_i hkp
        have hq : (p - 1) / 2 < p := by omega
        have huq := hu.up hkp
        have hkq := huq.le
        split
        · rename_i hlt
          refine sd_heap S f (l.set p (l.getD ((p - 1) / 2) default)) ((p - 1) / 2) (by omega) (by simp; omega) huq ⟨?_, ?_⟩ ?_
          · intro j h1 h2 h3 h4 h5
            rw [List.length_set] at h2
            by_cases ep : (j - 1) / 2 = p
            · rw [getD_set_ne (by omega), ep, getD_set_self hp]
              exact hH.2 hkp j h1 h2 ep
            · by_cases ej : j = p
              · subst ej; exact absurd rfl h5
              · rw [getD_set_ne (by omega), getD_set_ne (by omega)]
                exact hH.1 j h1 h2 h3 ej ep
          · intro hkq' c h1 h2 h3
            rw [List.length_set] at h2
            have hqq : lt (l.getD ((p - 1) / 2) default) (l.getD (((p - 1) / 2 - 1) / 2) default) = false :=
              hH.1 ((p - 1) / 2) (by omega) (by omega) (by have := (huq.up hkq').le; omega) (by omega) (by omega)
            rw [getD_set_ne (l := l) (i := p) (j := ((p - 1) / 2 - 1) / 2) (by omega)]
            by_cases ec : c = p
            · subst ec
              rw [getD_set_self hp]; exact hqq
            · rw [getD_set_ne (by omega)]
              refine S.tr _ _ _ hqq ?_
              have := hH.1 c h1 h2 (by omega) ec (by omega)
              rw [h3] at this; exact this
          · intro c h1 h2 h3
            rw [List.length_set] at h2
            by_cases ec : c = p
            · subst ec
              rw [getD_set_self hp]; exact S.asym _ _ hlt
            · rw [getD_set_ne (by omega)]
              refine S.tr _ _ _ (S.asym _ _ hlt) ?_
              have := hH.1 c h1 h2 (by omega) ec (by omega)
              rw [h3] at this; exact this
        · rename_i hlt
          exact stop fun _ => by simpa using hlt
      · rename_i hkp
        exact stop (by omega)

theorem su_hole (S : Swo lt) {n k : Nat} : ∀ (f : Nat) (l : List α) (p : Nat), n ≤ f + p → n = l.length → p < l.length → Under k p → Hole lt l k p →
    Under k (suLoop lt n f l p).2 ∧ Hole lt (suLoop lt n f l p).1 k (suLoop lt n f l p).2 ∧ ¬ 2 * (suLoop lt n f l p).2 + 1 < n
  | 0, l, p, hf, hn, hp, hu, hH => by omega
  | f + 1, l, p, hf, hn, hp, hu, hH => by
    rw [suLoop]
    split
    · rename_i hc
      have hs := suChild_lt (lt := lt) (l := l) hc
      have hsel : suChild lt n l p = 2 * p + 1 ∧ (2 * p + 2 < n → lt (l.getD (2 * p + 2) default) (l.getD (2 * p + 1) default) = false) ∨
          suChild lt n l p = 2 * p + 2 ∧ lt (l.getD (2 * p + 1) default) (l.getD (2 * p + 2) default) = false := by
        unfold suChild
        split
        · rename_i h; simp at h; right; exact ⟨rfl, by simpa using h.2⟩
        · rename_i h; left; refine ⟨rfl, fun h2 => ?_⟩
          simp [h2] at h
          exact S.asym _ _ (by simpa using h)
      generalize suChild lt n l p = c at hs hsel
      have hpar : (c - 1) / 2 = p := by omega
      have hk := hu.le
      refine su_hole S f (l.set p (l.getD c default)) c (by omega) (by simpa using hn) (by simp; omega) (.down (by omega) (by rw [hpar]; exact hu)) ⟨?_, ?_⟩
      · intro j h1 h2 h3 h4 h5
        rw [List.length_set] at h2
        by_cases ej : j = p
        · subst ej
          rw [getD_set_self hp, getD_set_ne (by omega)]
          exact hH.2 (by omega) c (by omega) (by omega) hpar
        · rw [getD_set_ne (i := p) (j := j) (by omega)]
          by_cases ep : (j - 1) / 2 = p
          · rw [ep, getD_set_self hp]
            rcases hsel with ⟨e, h⟩ | ⟨e, h⟩
            · have : j = 2 * p + 2 := by omega
              rw [this, e]; exact h (by omega)
            · have : j = 2 * p + 1 := by omega
              rw [this, e]; exact h
          · rw [getD_set_ne (by omega)]
            exact hH.1 j h1 h2 h3 ej ep
      · intro hkc d h1 h2 h3
        rw [List.length_set] at h2
        rw [hpar, getD_set_self hp, getD_set_ne (by omega)]
        have := hH.1 d h1 h2 (by omega) (by omega) (by omega)
        rw [h3] at this; exact this
    · rename_i hc
      exact ⟨hu, hH, hc⟩

theorem siftup_heap (S : Swo lt) {l : List α} {k : Nat} (hk : k < l.length) (h : HeapFrom lt l (k + 1)) : HeapFrom lt (siftup lt l k) k := by
  have h0 : Hole lt l k k := ⟨fun j h1 h2 h3 _ h5 => h j h1 h2 (by omega), fun h => absurd h (Nat.lt_irrefl _)⟩
  obtain ⟨hu, hH, hend⟩ := su_hole S l.length l k (by omega) rfl hk .self h0
  obtain ⟨hl1, hl2, _⟩ := suLoop_spec (lt := lt) (x := l.getD k default) l.length l k hk rfl
  unfold siftup siftdown
  dsimp only
  generalize suLoop lt l.length l.length l k = r at hu hH hend hl1 hl2
  have hr : r.2 < r.1.length := by omega
  rw [getD_set_self hr]
  refine sd_heap S r.2 _ r.2 (Nat.le_refl _) (by simpa using hr) hu ⟨?_, ?_⟩ ?_
  · intro j h1 h2 h3 h4 h5
    rw [List.length_set] at h2
    rw [getD_set_ne (by omega), getD_set_ne (by omega)]
    exact hH.1 j h1 h2 h3 h4 h5
  · intro _ c h1 h2 h3
    rw [List.length_set] at h2
    omega
  · intro c h1 h2 h3
    rw [List.length_set] at h2
    omega
theorem hfy_heap (S : Swo lt) : ∀ (k : Nat) (l : List α), k ≤ l.length → HeapFrom lt l k → HeapFrom lt (hfy lt k l) 0
  | 0, l, _, h => h
  | k + 1, l, hk, h => hfy_heap S k _ (by rw [(siftup_perm (lt := lt) (l := l) (p := k) (by omega)).length_eq]; omega) (siftup_heap S (by omega) h)
theorem hfy_heap_all (S : Swo lt) (l : List α) : HeapFrom lt (hfy lt (l.length / 2) l) 0 :=
  hfy_heap S _ l (by omega) fun j h1 h2 h3 => by omega
theorem heap_min (S : Swo lt) {l : List α} (h : HeapFrom lt l 0) : ∀ (j : Nat), j < l.length → lt (l.getD j default) (l.getD 0 default) = false := by
  intro j
  induction j using Nat.strongRecOn with
  | ind j ih =>
    intro hj
    by_cases e : j = 0
    · subst e
      cases hc : lt (l.getD 0 default) (l.getD 0 default) with
      | false => rfl
      | true => exact (S.asym _ _ hc).symm.trans hc ▸ rfl
    · exact S.tr _ _ _ (ih ((j - 1) / 2) (by omega) (by omega)) (h j (by omega) hj (by omega))
end
end Mine
end PartP2
section PartS5
open PySem PySem.W PyProof.Rows
set_option maxRecDepth 100000
set_option Elab.async false
namespace Mine
theorem fill5 (P : Params) : (fun (_ : OpenLaw) => nsIn (Mine.hd.heap_39 P) mainGlobals (Str.ofString "zz")) PySem.Challenge.rw_oy0031_01 = (fun (_ : OpenLaw) => nsIn (Mine.hd.heap_39 P) mainGlobals (Str.ofString "zz")) PySem.Challenge.rw_oy0031_01 := by
  k_fill
  rfl

set_option maxHeartbeats 4000000 in
theorem heapify_ok {prog : Program} {w : World} {p : Program} {loose : List Str} {mean : ExcName → Option Value} {mg mb : Str → Option Value}
   {dp un : Nat} {gd : Option (List Code)} {cn : Str} {cs : Scope} {a : Addr} {ccd : Value} {cl : List (Str × Addr)} {outer : List Env} {A₀ : Around} {base h₀ : Heap} {L : Addr} {m : Str → Option Value} {s : Shared} {Q E : Value → Shared → Prop}
   (B : Below A₀ base outer h₀) (F : Fr h₀ L s.heap m) (X : (Mine.hd.heap_39 w.params).In h₀) (T : Top p loose mean mg mb h₀) (hk : cs.kind = .function) (hd : dp + 5 < recursionLimit) (hu : un + 96 < cLine)
   {hl : Addr} {es : List Ent} {n : Nat} {rest : List (Addr × Obj)} (N : News h₀ L s.heap ((hl, listOf (es.map (·.1)).toArray n) :: rest)) (hne : ∀ p ∈ rest, p.1 ≠ hl) (hes : ∀ e ∈ es, DatIn rest e.1 (triD e.2))
   (hlen : es.length ≤ 60)
   (ret : ∀ h' tk', Fr h₀ L h' m → News h₀ L h' ((hl, listOf ((hfy entLt (es.length / 2) es).map (·.1)).toArray n) :: rest) → Q .none { s with heap := h', toks := tk' }) :
   wpAny (model prog w) (ktrTop dp un gd cn cs L a ccd cl outer) (call (.ref 42) [.ref hl]) Q E s := by
  refine wpAny_call ?_
  k_dflt ktr_enter
  generalize s.toks + List.length _ = tk0
  rename_i g L1 h1 FG F1 N1 B1 X1 T1
  replace F1 := fr_binds F1 (l := [((Str.ofString "x"), .ref hl)]) rfl
  repeat ((first | (with_reducible show wpAny _ _ _ _ _ _) | (with_reducible show ite _ _ _)); (fail_if_success (with_reducible show wpAny _ _ (exec (PySem.Stmt.While _ _ _ _) _) _ _ _)); (fail_if_success (with_reducible show wpAny _ _ (pyIter _) _ _ _)); walk1; (try dsimp only))
  refine ent_len N1 (.head _) (by omega) ?_
  intro t3 tk3
  repeat ((first | (with_reducible show wpAny _ _ _ _ _ _) | (with_reducible show ite _ _ _)); (fail_if_success (with_reducible show wpAny _ _ (exec (PySem.Stmt.While _ _ _ _) _) _ _ _)); (fail_if_success (with_reducible show wpAny _ _ (pyIter _) _ _ _)); walk1; (try dsimp only))
  rename IsRange _ _ _ _ _ _ _ _ => R
  rename Fr _ _ _ _ => F2
  rename News _ _ _ _ => N2
  dsimp only at R
  have eh : (es.length : Int).fdiv 2 = ((es.length / 2 : Nat) : Int) := by
    rw [Int.fdiv_eq_ediv_of_nonneg _ (by omega)]; omega
  rw [eh] at R
  refine call_reversed_range R (by omega) ?_
  refine wpAny_pyIter_rangeiter (x := ((es.length / 2 : Nat) : Int) - 1) (left := (es.length / 2 : Nat)) (step := -1) (Heap.get?_push_size _ rfl) ?_
  rename Heap => h2
  have hLt : L1 < h2.objs.size := F2.ns.lt
  have hst : IsRangeIter (h2.push (riObj (((es.length / 2 : Nat) : Int) - 1) (es.length / 2 : Nat) (-1))) h2.objs.size (((es.length / 2 : Nat) : Int) - 1 + ((0 : Nat) : Int) * -1) (((es.length / 2 : Nat) : Int) - ((0 : Nat) : Int)) (-1) := by
    have e1 : ((es.length / 2 : Nat) : Int) - 1 + ((0 : Nat) : Int) * -1 = ((es.length / 2 : Nat) : Int) - 1 := by omega
    have e2 : ((es.length / 2 : Nat) : Int) - ((0 : Nat) : Int) = (es.length / 2 : Nat) := by omega
    rw [e1, e2]; exact Heap.get?_push_size _ rfl
  refine for_iter (σ := List Ent) (fun c => (hl, listOf (c.map (·.1)).toArray n) :: rest) (fun _ => [((Str.ofString "x"), .ref hl)])
    (fun i c => c.length = es.length ∧ (∀ e ∈ c, e ∈ es) ∧ hfy entLt (es.length / 2 - i) c = hfy entLt (es.length / 2) es) es
    (Walks.range rfl h2.objs.size (((es.length / 2 : Nat) : Int) - 1) (-1) (es.length / 2)) (fun i h st => ⟨_, st⟩) (Nat.ne_of_lt hLt) (next_is_new F2)
    (fun p hp => Nat.ne_of_lt (Heap.lt_size (N2 p hp).1)) hst (F2.push _)
    (fun p hp => ⟨Heap.get?_push_of_some _ (N2 p hp).1, (N2 p hp).2⟩) (by kst_all) ⟨rfl, fun _ h => h, rfl⟩ ?_ ?_
  · rintro i v c u h tk own hi ⟨tv, rfl⟩ hoff ⟨hc1, hc2, hc3⟩ F3 N3
    have ei : ((es.length / 2 : Nat) : Int) - 1 + (i : Int) * -1 = ((es.length / 2 - 1 - i : Nat) : Int) := by omega
    rw [ei] at F3
    repeat ((first | (with_reducible show wpAny _ _ _ _ _ _) | (with_reducible show ite _ _ _)); (fail_if_success (with_reducible show wpAny _ _ (exec (PySem.Stmt.While _ _ _ _) _) _ _ _)); (fail_if_success (with_reducible show wpAny _ _ (pyIter _) _ _ _)); walk1; (try dsimp only))
    refine ⟨X1.keeps F3.keep, ?_⟩
    have hp3 := siftup_perm (lt := entLt) (l := c) (p := es.length / 2 - 1 - i) (by omega)
    k_dflt (refine siftup_ok (es := c) (rest := rest ++ own) B1 F3 X1 T1 rfl ?_ ?_ N3 ?_ ?_ (es.length / 2 - 1 - i) ?_ ?_ ?_)
    · ktr_room
    · ktr_units
    · intro p hp
      rcases List.mem_append.mp hp with h | h
      · exact hne p h
      · exact hoff p h hl (.head _)
    · intro e he
      exact DatIn.mono (fun p hp => List.mem_append.mpr (.inl hp)) (hes e (hc2 e he))
    · omega
    · omega
    intro h5 tk5 F5 N5
    repeat ((first | (with_reducible show wpAny _ _ _ _ _ _) | (with_reducible show ite _ _ _)); (fail_if_success (with_reducible show wpAny _ _ (exec (PySem.Stmt.While _ _ _ _) _) _ _ _)); (fail_if_success (with_reducible show wpAny _ _ (pyIter _) _ _ _)); walk1; (try dsimp only))
    refine f_end (siftup entLt c (es.length / 2 - 1 - i)) F5 N5 hoff (by kst_all) ⟨?_, ?_, ?_⟩
    · rw [hp3.length_eq]; exact hc1
    · intro e he
      exact hc2 e (hp3.mem_iff.mp he)
    · rw [← hc3]
      have e3 : es.length / 2 - i = (es.length / 2 - 1 - i) + 1 := by omega
      have e4 : es.length / 2 - (i + 1) = es.length / 2 - 1 - i := by omega
      rw [e3, e4, hfy]
  · rintro c u h tk ⟨hc1, hc2, hc3⟩ F3 N3
    repeat ((first | (with_reducible show wpAny _ _ _ _ _ _) | (with_reducible show ite _ _ _)); (fail_if_success (with_reducible show wpAny _ _ (exec (PySem.Stmt.While _ _ _ _) _) _ _ _)); (fail_if_success (with_reducible show wpAny _ _ (pyIter _) _ _ _)); walk1; (try dsimp only))
    refine leaveK_ F3 N3 fun F7 N7 => ?_
    refine ret _ _ F7 ?_
    rw [Nat.sub_self] at hc3
    rw [← hc3]; exact N7
end Mine
end PartS5
section PartS6
open PySem PySem.W PyProof.Rows
set_option maxRecDepth 100000
set_option Elab.async false
namespace Mine
theorem fill6 (P : Params) : (fun (_ : OpenLaw) => nsIn (Mine.hd.heap_39 P) mainGlobals (Str.ofString "zz")) PySem.Challenge.rw_oy0031_01 = (fun (_ : OpenLaw) => nsIn (Mine.hd.heap_39 P) mainGlobals (Str.ofString "zz")) PySem.Challenge.rw_oy0031_01 := by
  k_fill
  rfl
def optD : Option Str → Dat
  | none => .none
  | some x => .str x
def nameOf (l e : Option Str) : Str :=
  let n := l.getD (Str.ofString "C")
  match e with
  | none => n
  | some y => n ++ Str.ofString "." ++ y
def ShortS (l : Option Str) : Prop := ∀ x, l = some x → x.length ≤ 100

set_option maxHeartbeats 4000000 in
theorem law_name_ok {prog : Program} {w : World} {p : Program} {loose : List Str} {mean : ExcName → Option Value} {mg mb : Str → Option Value}
   {dp un : Nat} {gd : Option (List Code)} {cn : Str} {cs : Scope} {a : Addr} {ccd : Value} {cl : List (Str × Addr)} {outer : List Env} {A₀ : Around} {base h₀ : Heap} {L : Addr} {m : Str → Option Value} {s : Shared} {Q E : Value → Shared → Prop}
   (B : Below A₀ base outer h₀) (F : Fr h₀ L s.heap m) (X : (Mine.hd.heap_39 w.params).In h₀) (T : Top p loose mean mg mb h₀) (hk : cs.kind = .function) (hd : dp + 5 < recursionLimit) (hu : un + 96 < cLine)
   {news fz : List (Addr × Obj)} (N : News h₀ L s.heap news) {v1 v2 : Value} {l e : Option Str} (h1 : DatIn fz v1 (optD l)) (h2 : DatIn fz v2 (optD e)) (s1 : ShortS l) (s2 : ShortS e)
   (ret : ∀ h' tk' t, Fr h₀ L h' m → News h₀ L h' news → Q (.str (nameOf l e) t) { s with heap := h', toks := tk' }) :
   wpAny (model prog w) (ktrTop dp un gd cn cs L a ccd cl outer) (call (.ref 70) [v1, v2]) Q E s := by
  refine wpAny_call ?_
  k_dflt ktr_enter
  generalize s.toks + List.length _ = tk0
  rename_i g L1 h1 FG F1 N1 B1 X1 T1
  replace F1 := fr_binds F1 (l := [((Str.ofString "encoding"), v2), ((Str.ofString "language"), v1)]) rfl
  have lC : (Str.ofString "C").length = 1 := by rw [PySem.ofString_length]; rfl
  have lD : (Str.ofString ".").length = 1 := by rw [PySem.ofString_length]; rfl
  cases l with
  | none =>
    cases h1
    cases e with
    | none =>
      cases h2
      repeat ((first | (with_reducible show wpAny _ _ _ _ _ _) | (with_reducible show ite _ _ _)); (fail_if_success (with_reducible show wpAny _ _ (exec (PySem.Stmt.While _ _ _ _) _) _ _ _)); (fail_if_success (with_reducible show wpAny _ _ (pyIter _) _ _ _)); walk1; (try dsimp only))
      rename Fr _ _ _ _ => F2
      rename News _ _ _ _ => N2
      exact leaveK_ F2 N2 fun F3 N3 => ret _ _ _ F3 N3
    | some y =>
      cases h2
      have ly := s2 y rfl
      repeat ((first | (with_reducible show wpAny _ _ _ _ _ _) | (with_reducible show ite _ _ _)); (fail_if_success (with_reducible show wpAny _ _ (exec (PySem.Stmt.While _ _ _ _) _) _ _ _)); (fail_if_success (with_reducible show wpAny _ _ (pyIter _) _ _ _)); walk1; (try dsimp only))
      rename Fr _ _ _ _ => F2
      rename News _ _ _ _ => N2
      exact leaveK_ F2 N2 fun F3 N3 => ret _ _ _ F3 N3
  | some x =>
    cases h1
    have lx := s1 x rfl
    cases e with
    | none =>
      cases h2
      repeat ((first | (with_reducible show wpAny _ _ _ _ _ _) | (with_reducible show ite _ _ _)); (fail_if_success (with_reducible show wpAny _ _ (exec (PySem.Stmt.While _ _ _ _) _) _ _ _)); (fail_if_success (with_reducible show wpAny _ _ (pyIter _) _ _ _)); walk1; (try dsimp only))
      rename Fr _ _ _ _ => F2
      rename News _ _ _ _ => N2
      exact leaveK_ F2 N2 fun F3 N3 => ret _ _ _ F3 N3
    | some y =>
      cases h2
      have ly := s2 y rfl
      repeat ((first | (with_reducible show wpAny _ _ _ _ _ _) | (with_reducible show ite _ _ _)); (fail_if_success (with_reducible show wpAny _ _ (exec (PySem.Stmt.While _ _ _ _) _) _ _ _)); (fail_if_success (with_reducible show wpAny _ _ (pyIter _) _ _ _)); walk1; (try dsimp only))
      rename Fr _ _ _ _ => F2
      rename News _ _ _ _ => N2
      exact leaveK_ F2 N2 fun F3 N3 => ret _ _ _ F3 N3
end Mine
end PartS6
section PartS7
open PySem PySem.W PyProof.Rows
set_option maxRecDepth 100000
set_option Elab.async false
namespace Mine
theorem fill7 (P : Params) : (fun (_ : OpenLaw) => nsIn (Mine.hd.heap_39 P) mainGlobals (Str.ofString "zz")) PySem.Challenge.rw_oy0031_01 = (fun (_ : OpenLaw) => nsIn (Mine.hd.heap_39 P) mainGlobals (Str.ofString "zz")) PySem.Challenge.rw_oy0031_01 := by
  k_fill
  rfl

set_option maxHeartbeats 4000000 in
theorem build_tuple_ok {prog : Program} {w : World} {p : Program} {loose : List Str} {mean : ExcName → Option Value} {mg mb : Str → Option Value}
   {dp un : Nat} {gd : Option (List Code)} {cn : Str} {cs : Scope} {a : Addr} {ccd : Value} {cl : List (Str × Addr)} {outer : List Env} {A₀ : Around} {base h₀ : Heap} {L : Addr} {m : Str → Option Value} {s : Shared} {Q E : Value → Shared → Prop}
   (B : Below A₀ base outer h₀) (F : Fr h₀ L s.heap m) (X : (Mine.hd.heap_39 w.params).In h₀) (T : Top p loose mean mg mb h₀) (hk : cs.kind = .function) (hd : dp + 5 < recursionLimit) (hu : un + 96 < cLine)
   {news : List (Addr × Obj)} (N : News h₀ L s.heap news) {v : Value} {l e : Option Str} (hv : DatIn news v (.tuple [optD l, optD e])) (s1 : ShortS l) (s2 : ShortS e)
   (ret : ∀ h' tk' t, Fr h₀ L h' m → News h₀ L h' news → Q (.str (nameOf l e) t) { s with heap := h', toks := tk' }) :
   wpAny (model prog w) (ktrTop dp un gd cn cs L a ccd cl outer) (call (.ref 21) [v]) Q E s := by
  cases hv with
  | tuple hm r =>
  rename_i al vs nn
  cases r with
  | cons h1 r =>
  cases r with
  | cons h2 r =>
  cases r
  rename_i v1 v2
  have N0 : News h₀ L s.heap ((al, ({ cls := .type "tuple", data := .seq [v1, v2].toArray nn } : Obj)) :: news) := fun p hp => by
    rcases List.mem_cons.mp hp with rfl | hp
    · exact N _ hm
    · exact N p hp
  clear N
  refine wpAny_call ?_
  k_dflt ktr_enter
  generalize s.toks + List.length _ = tk0
  rename_i g L1 h1 FG F1 N1 B1 X1 T1
  replace F1 := fr_binds F1 (l := [((Str.ofString "localetuple"), .ref al)]) rfl
  cases l with
  | none =>
    cases h1
    cases e with
    | none =>
      cases h2
      repeat ((first | (with_reducible show wpAny _ _ _ _ _ _) | (with_reducible show ite _ _ _)); (fail_if_success (with_reducible show wpAny _ _ (exec (PySem.Stmt.While _ _ _ _) _) _ _ _)); (fail_if_success (with_reducible show wpAny _ _ (pyIter _) _ _ _)); walk1; (try dsimp only))
      rename Fr _ _ _ _ => F2
      rename News _ _ _ _ => N2
      exact leaveK_ F2 N2 fun F3 N3 => ret _ _ _ F3 (news_sub N3 fun _ h => .tail _ h)
    | some y =>
      cases h2
      have ly := s2 y rfl
      repeat ((first | (with_reducible show wpAny _ _ _ _ _ _) | (with_reducible show ite _ _ _)); (fail_if_success (with_reducible show wpAny _ _ (exec (PySem.Stmt.While _ _ _ _) _) _ _ _)); (fail_if_success (with_reducible show wpAny _ _ (pyIter _) _ _ _)); walk1; (try dsimp only))
      rename Fr _ _ _ _ => F2
      rename News _ _ _ _ => N2
      exact leaveK_ F2 N2 fun F3 N3 => ret _ _ _ F3 (news_sub N3 fun _ h => .tail _ h)
  | some x =>
    cases h1
    have lx := s1 x rfl
    cases e with
    | none =>
      cases h2
      repeat ((first | (with_reducible show wpAny _ _ _ _ _ _) | (with_reducible show ite _ _ _)); (fail_if_success (with_reducible show wpAny _ _ (exec (PySem.Stmt.While _ _ _ _) _) _ _ _)); (fail_if_success (with_reducible show wpAny _ _ (pyIter _) _ _ _)); walk1; (try dsimp only))
      rename Fr _ _ _ _ => F2
      rename News _ _ _ _ => N2
      exact leaveK_ F2 N2 fun F3 N3 => ret _ _ _ F3 (news_sub N3 fun _ h => .tail _ h)
    | some y =>
      cases h2
      have ly := s2 y rfl
      repeat ((first | (with_reducible show wpAny _ _ _ _ _ _) | (with_reducible show ite _ _ _)); (fail_if_success (with_reducible show wpAny _ _ (exec (PySem.Stmt.While _ _ _ _) _) _ _ _)); (fail_if_success (with_reducible show wpAny _ _ (pyIter _) _ _ _)); walk1; (try dsimp only))
      rename Fr _ _ _ _ => F2
      rename News _ _ _ _ => N2
      exact leaveK_ F2 N2 fun F3 N3 => ret _ _ _ F3 (news_sub N3 fun _ h => .tail _ h)

set_option maxHeartbeats 4000000 in
theorem build_list_ok {prog : Program} {w : World} {p : Program} {loose : List Str} {mean : ExcName → Option Value} {mg mb : Str → Option Value}
   {dp un : Nat} {gd : Option (List Code)} {cn : Str} {cs : Scope} {a : Addr} {ccd : Value} {cl : List (Str × Addr)} {outer : List Env} {A₀ : Around} {base h₀ : Heap} {L : Addr} {m : Str → Option Value} {s : Shared} {Q E : Value → Shared → Prop}
   (B : Below A₀ base outer h₀) (F : Fr h₀ L s.heap m) (X : (Mine.hd.heap_39 w.params).In h₀) (T : Top p loose mean mg mb h₀) (hk : cs.kind = .function) (hd : dp + 5 < recursionLimit) (hu : un + 96 < cLine)
   {news : List (Addr × Obj)} (N : News h₀ L s.heap news) {v : Value} {l e : Option Str} (hv : DatIn news v (.list [optD l, optD e])) (s1 : ShortS l) (s2 : ShortS e)
   (ret : ∀ h' tk' t, Fr h₀ L h' m → News h₀ L h' news → Q (.str (nameOf l e) t) { s with heap := h', toks := tk' }) :
   wpAny (model prog w) (ktrTop dp un gd cn cs L a ccd cl outer) (call (.ref 21) [v]) Q E s := by
  cases hv with
  | list hm r =>
  rename_i al vs nn
  cases r with
  | cons h1 r =>
  cases r with
  | cons h2 r =>
  cases r
  rename_i v1 v2
  have N0 : News h₀ L s.heap ((al, listOf [v1, v2].toArray nn) :: news) := fun p hp => by
    rcases List.mem_cons.mp hp with rfl | hp
    · exact N _ hm
    · exact N p hp
  clear N
  refine wpAny_call ?_
  k_dflt ktr_enter
  generalize s.toks + List.length _ = tk0
  rename_i g L1 h1 FG F1 N1 B1 X1 T1
  replace F1 := fr_binds F1 (l := [((Str.ofString "localetuple"), .ref al)]) rfl
  cases l with
  | none =>
    cases h1
    cases e with
    | none =>
      cases h2
      repeat ((first | (with_reducible show wpAny _ _ _ _ _ _) | (with_reducible show ite _ _ _)); (fail_if_success (with_reducible show wpAny _ _ (exec (PySem.Stmt.While _ _ _ _) _) _ _ _)); (fail_if_success (with_reducible show wpAny _ _ (pyIter _) _ _ _)); walk1; (try dsimp only))
      rename Fr _ _ _ _ => F2
      rename News _ _ _ _ => N2
      exact leaveK_ F2 N2 fun F3 N3 => ret _ _ _ F3 (news_sub N3 fun _ h => .tail _ h)
    | some y =>
      cases h2
      have ly := s2 y rfl
      repeat ((first | (with_reducible show wpAny _ _ _ _ _ _) | (with_reducible show ite _ _ _)); (fail_if_success (with_reducible show wpAny _ _ (exec (PySem.Stmt.While _ _ _ _) _) _ _ _)); (fail_if_success (with_reducible show wpAny _ _ (pyIter _) _ _ _)); walk1; (try dsimp only))
      rename Fr _ _ _ _ => F2
      rename News _ _ _ _ => N2
      exact leaveK_ F2 N2 fun F3 N3 => ret _ _ _ F3 (news_sub N3 fun _ h => .tail _ h)
  | some x =>
    cases h1
    have lx := s1 x rfl
    cases e with
    | none =>
      cases h2
      repeat ((first | (with_reducible show wpAny _ _ _ _ _ _) | (with_reducible show ite _ _ _)); (fail_if_success (with_reducible show wpAny _ _ (exec (PySem.Stmt.While _ _ _ _) _) _ _ _)); (fail_if_success (with_reducible show wpAny _ _ (pyIter _) _ _ _)); walk1; (try dsimp only))
      rename Fr _ _ _ _ => F2
      rename News _ _ _ _ => N2
      exact leaveK_ F2 N2 fun F3 N3 => ret _ _ _ F3 (news_sub N3 fun _ h => .tail _ h)
    | some y =>
      cases h2
      have ly := s2 y rfl
      repeat ((first | (with_reducible show wpAny _ _ _ _ _ _) | (with_reducible show ite _ _ _)); (fail_if_success (with_reducible show wpAny _ _ (exec (PySem.Stmt.While _ _ _ _) _) _ _ _)); (fail_if_success (with_reducible show wpAny _ _ (pyIter _) _ _ _)); walk1; (try dsimp only))
      rename Fr _ _ _ _ => F2
      rename News _ _ _ _ => N2
      exact leaveK_ F2 N2 fun F3 N3 => ret _ _ _ F3 (news_sub N3 fun _ h => .tail _ h)
end Mine
end PartS7
section PartX1
open PySem PySem.W PyProof.Rows
set_option maxRecDepth 100000
set_option Elab.async false
namespace Mine
section
variable {prog : Program} {w : World} {A : Around} {E : Value → Shared → Prop} {s : Shared} {env : Env} {elts : List Expr} {k : Nat} {pos : Pos}
theorem unpack_tup1 {t : Addr} {x : Value} {Q : Unit → Shared → Prop} (hh : A.handled = none) (ht : s.heap.IsTuple t #[x]) (hn : (assignEach elts env).length = 2) (hs : (assignEach elts env).findIdx? (·.1) = none)
    (h : ∀ h1 h' tk e, (∀ b o, s.heap.get? b = some o → h1.get? b = some o) → Heap.NewExc h1 h' e "ValueError" → E (.ref e) { s with heap := h', toks := tk }) :
    wpAny (model prog w) A (assign (.Tuple elts k pos) env (.ref t)) Q E s := by
  have hlt : t ≠ s.heap.objs.size := by obtain ⟨o, ho, _⟩ := ht; exact Nat.ne_of_lt (Heap.lt_size ho)
  rw [assign_Tuple]
  refine wpAny_bind (wpAny_standAt ?_)
  unfold unpack
  rw [hn, hs]
  refine wpAny_bind (wpAny_holding ?_)
  unfold unpackItems
  refine wpAny_bind ?_
  unfold notIterableAtAll
  refine wpAny_bind (wpAny_specialOf ht.typeIs F.slot_tuple_iter.lookup ?_)
  refine wpAny_pure ?_
  simp only [Bool.false_eq_true, if_false]
  refine wpAny_bind (wpAny_holding (wpAny_pyIter_tuple ht ?_))
  refine wpAny_bind (wpAny_holding ?_)
  show wpAny _ _ (pyNext (.ref s.heap.objs.size) >>= _) _ _ _
  refine wpAny_bind (wpAny_pyNext_tuple_item (i := 0) (x := x) ⟨_, Heap.get?_push_size _ rfl, rfl, rfl⟩ (ht.at fun o e => Heap.get?_push_of_some _ e) rfl fun h₁ hit₁ hs₁ => ?_)
  refine wpAny_bind (wpAny_holding ?_)
  show wpAny _ _ (pyNext (.ref s.heap.objs.size) >>= _) _ _ _
  have ht₁ : h₁.IsTuple t #[x] := (ht.at (h' := s.heap.push _) fun o e => Heap.get?_push_of_some _ e).extBut hs₁.extBut hlt
  refine wpAny_bind (wpAny_pyNext_tuple_end hh hit₁ ht₁ rfl fun h₂ he₂ => ?_)
  refine wpAny_pure (wpAny_pure ?_)
  rw [if_pos (by simp)]
  refine wpAny_bind (wpAny_rule (wpAny_bind (wpAny_raiseErrorMade plainExc_ValueError hh (fun h' tk e hx => h h₂ h' tk e (fun b o hb => ?_) hx) ?_)))
  · have hbn : b ≠ s.heap.objs.size := Nat.ne_of_lt (Heap.lt_size hb)
    exact he₂ b o hbn (hs₁.extBut b o hbn (Heap.get?_push_of_some _ hb))
  · rw [PySem.ofString_length, PySem.sizeLine_eq, show [x].length = 1 from rfl]; decide

theorem unpack_list3 {t : Addr} {x y z : Value} {Q : Unit → Shared → Prop} (hh : A.handled = none) (ht : s.heap.IsList t #[x, y, z]) (hn : (assignEach elts env).length = 2) (hs : (assignEach elts env).findIdx? (·.1) = none)
    (h : ∀ h1 h' tk e, (∀ b o, s.heap.get? b = some o → h1.get? b = some o) → Heap.NewExc h1 h' e "ValueError" → E (.ref e) { s with heap := h', toks := tk }) :
    wpAny (model prog w) A (assign (.Tuple elts k pos) env (.ref t)) Q E s := by
  have hlt : t ≠ s.heap.objs.size := by obtain ⟨o, ho, _⟩ := ht; exact Nat.ne_of_lt (Heap.lt_size ho)
  rw [assign_Tuple]
  refine wpAny_bind (wpAny_standAt ?_)
  unfold unpack
  rw [hn, hs]
  refine wpAny_bind (wpAny_holding ?_)
  unfold unpackItems
  refine wpAny_bind ?_
  unfold notIterableAtAll
  refine wpAny_bind (wpAny_specialOf ht.typeIs slot_list_iter.lookup ?_)
  refine wpAny_pure ?_
  simp only [Bool.false_eq_true, if_false]
  refine wpAny_bind (wpAny_holding (wpAny_pyIter_list ht ?_))
  refine wpAny_bind (wpAny_holding (kun_draw hlt 2 0 _ _ ⟨_, Heap.get?_push_size _ rfl, rfl, rfl⟩ (ht.push _) (by simp) fun h₁ hit₁ hs₁ => ?_))
  have hl₁ : h₁.IsList t #[x, y, z] := (ht.push _).extBut hs₁.extBut hlt
  rw [if_neg (by simp)]
  refine wpAny_bind (wpAny_holding (wpAny_pyNext_list_item hit₁ hl₁ (x := z) rfl fun h₂ hit₂ hs₂ => ?_))
  simp only [Option.isSome_some, if_true]
  refine wpAny_bind (wpAny_rule (wpAny_bind (wpAny_raiseErrorMade plainExc_ValueError hh (fun h' tk e hx => h h₂ h' tk e (fun b o hb => ?_) hx) ?_)))
  · have hbn : b ≠ s.heap.objs.size := Nat.ne_of_lt (Heap.lt_size hb)
    exact hs₂.extBut b o hbn (hs₁.extBut b o hbn (Heap.get?_push_of_some _ hb))
  · rw [PySem.ofString_length, PySem.sizeLine_eq]; decide

theorem int_no_iter : typeLookup (.type "int") "__iter__" = pure none := by rw [typeLookup_type, builtinLookup_eq_fast]; kernel_rfl
theorem int_no_getitem : typeLookup (.type "int") "__getitem__" = pure none := by rw [typeLookup_type, builtinLookup_eq_fast]; kernel_rfl
theorem unpack_int {i : Int} {t : Tok} {Q : Unit → Shared → Prop} (hh : A.handled = none) (hn : (assignEach elts env).length = 2) (hs : (assignEach elts env).findIdx? (·.1) = none)
    (h : ∀ h1 h' tk e, (∀ b o, s.heap.get? b = some o → h1.get? b = some o) → Heap.NewExc h1 h' e "TypeError" → E (.ref e) { s with heap := h', toks := tk }) :
    wpAny (model prog w) A (assign (.Tuple elts k pos) env (.int i t)) Q E s := by
  rw [assign_Tuple]
  refine wpAny_bind (wpAny_standAt ?_)
  unfold unpack
  rw [hn, hs]
  refine wpAny_bind (wpAny_holding ?_)
  unfold unpackItems
  refine wpAny_bind ?_
  unfold notIterableAtAll
  refine wpAny_bind (wpAny_specialOf (typeIs_int s i t) int_no_iter ?_)
  simp only [Option.isSome_none, Bool.false_eq_true, if_false]
  refine wpAny_bind (wpAny_specialOf (typeIs_int s i t) int_no_getitem ?_)
  refine wpAny_pure ?_
  simp only [if_true]
  refine wpAny_bind (wpAny_rule (wpAny_bind ?_))
  refine wpAny_typeNameOf' (typeIs_int s i t) (by decide) ?_
  refine wpAny_bind (wpAny_raiseErrorMade plainExc_TypeError hh (fun h' tk e hx => h s.heap h' tk e (fun _ _ z => z) hx) ?_)
  rw [PySem.ofString_length, PySem.sizeLine_eq]; decide +kernel

theorem int_add_declines (a : Int) (t : Tok) (x : Str) (u : Tok) :
    Meets (Builtin.«int.__add__» ⟨[.int a t, .str x u], []⟩) (fun _ R s => R (.ok (.ret Value.notImplemented)) s) :=
  .of_wp fun prog w A R s h => by obtain ⟨hp, g, d, tk, os⟩ := s; wp_walk; exact ⟨_, rfl, h⟩
theorem int_no_concat : seqSlot? (.type "int") "__add__" = pure none := by
  have e : typeLookup (.type "int") "__add__" = pure (some (.builtin "int.__add__")) := PySem.slot_int_add.lookup
  unfold seqSlot?
  rw [e]
  rfl
theorem add_int_str {i : Int} {t u : Tok} {x : Str} {Q : Value → Shared → Prop} (hh : A.handled = none)
    (h : ∀ h' tk e, Heap.NewExc s.heap h' e "TypeError" → E (.ref e) { s with heap := h', toks := tk }) :
    wpAny (model prog w) A (binaryOp .Add (.int i t) (.str x u)) Q E s := by
  unfold binaryOp
  refine wpAny_holding ?_
  refine wpAny_bind (lm_binaryOp1_left_declines (nm := "add") (T := "int") (U := "str") (by decide) (typeIs_int s i t) (PySem.typeIs_str s x u) PySem.fills_int_add PySem.noFill_str_add PySem.slot_int_add (call_meets PySem.slot_int_add (typeIs_int s i t) PySem.entry_int_add (PySem.args_int_add _ _) (int_add_declines i t x u) ⟨rfl, ?_⟩))
  refine wpAny_bind (wpAny_typeOf (typeIs_int s i t) ?_)
  refine wpAny_bind (wpAny_of_eq int_no_concat ?_)
  unfold binopTypeError
  refine wpAny_bind (wpAny_rule ?_)
  refine wpAny_bind (wpAny_typeNameOf' (typeIs_int s i t) (by decide) ?_)
  refine wpAny_bind (wpAny_typeNameOf' (PySem.typeIs_str s x u) (by decide) ?_)
  refine wpAny_raiseErrorMade plainExc_TypeError hh h ?_
  rw [PySem.ofString_length, PySem.sizeLine_eq]; decide +kernel
end
end Mine
end PartX1
section PartX2
open PySem PySem.W PyProof.Rows
set_option maxRecDepth 100000
set_option Elab.async false
namespace Mine
/-- the record at e bears c at its place 2 -/
def Fld2 (h : Heap) (e : Addr) (c : Value) : Prop := ∃ o vs, h.get? e = some o ∧ o.data = .fields vs ∧ vs[2]? = some c
theorem Fld2.keeps {h h' : Heap} {e : Addr} {c : Value} (x : Fld2 h e c) (k : ∀ b o, h.get? b = some o → h'.get? b = some o) : Fld2 h' e c :=
  let ⟨o, vs, ho, r⟩ := x; ⟨o, vs, k _ _ ho, r⟩
section
variable {M : Model} {A : Around} {E : Value → Shared → Prop} {s : Shared}
theorem note_first {B : Heap} {env : Env} {outer : List Env} {L e : Addr} {oe : Obj} {vs : Array Value} {a0 c : Value} {Q : Unit → Shared → Prop}
    (hfr : A.frames = some (env :: outer)) (hl : s.heap.FunFrames B (env :: outer)) (hf : env.frame = some L)
    (he : s.heap.get? e = some oe) (hkb : B.StaysIn s.heap) (hen : B.get? e = none) (hd : oe.data = .fields vs) (h1 : vs[1]? = some .none) (h0 : vs[0]? = some a0) (h2 : vs[2]? = some c)
    (h : ∀ h', Heap.HeldW B (env :: outer) e oe.cls a0 L h' → Fld2 h' e c → s.heap.UpToSlots h' → Q () { s with heap := h' }) :
    wpAny M A (noteFrame (.ref e) env) Q E s := by
  have hsz : 1 < vs.size := (Array.getElem?_eq_some_iff.mp h1).1
  have hene : e ∉ (env :: outer).filterMap (·.frame) := fun hm => by
    obtain ⟨_, o, ho, hnf⟩ := hl.mem hm
    rw [he] at ho; injection ho with ho; subst ho; exact hnf vs hd
  unfold noteFrame
  simp only [hf]
  refine wpAny_bind (wpAny_field he hd h1 ?_)
  rw [if_neg (by decide)]
  refine wpAny_bind (wpAny_frameOf_fun hfr hl hf fun g hg => ?_)
  refine wpAny_bind (wpAny_entryPlaceOf fun pl hpl => ?_)
  unfold EntryCells.newEntry newFields
  refine wpAny_bind (wpAny_newObj_type ?_ (hpl.sizeOk5 _ _ _ _ _))
  have ge : g.get? e = some oe := (hg.2.1 e hene).trans he
  have gb : B.StaysIn g := fun b o hbo => (hg.2.1 b fun hm => by rw [(hl.mem hm).1] at hbo; cases hbo).trans (hkb b o hbo)
  have hT : g.objs.size ≠ e := Nat.ne_of_gt (Heap.lt_size ge)
  refine wpAny_setField (Heap.get?_push_of_some _ ge) hd hsz ?_
  have dat := Obj.data_mapFields hd (·.setIfInBounds 1 (Value.ref g.objs.size))
  have keep : ∀ (tb : Obj) b o, b ≠ e → g.get? b = some o → ((g.push tb).update e (Obj.mapFields (·.setIfInBounds 1 (Value.ref g.objs.size)))).get? b = some o := fun tb b o hbe hb => by
    rw [Heap.get?_update_other _ _ (Ne.symm hbe)]; exact Heap.get?_push_of_some _ hb
  have notE : ∀ b o, s.heap.get? b = some o → (∀ ws, o.data ≠ .fields ws) → b ≠ e := fun b o hb hnf q => by
    rw [q, he] at hb; injection hb with hb; subst hb; exact hnf vs hd
  have self := fun tb : Obj => Heap.get?_update_self (Obj.mapFields (·.setIfInBounds 1 (Value.ref g.objs.size))) (Heap.get?_push_of_some tb ge) (Obj.isFreed_of_fields dat)
  refine h _ ⟨fun b o hbo => keep _ b o (fun q => by rw [q, hen] at hbo; cases hbo) (gb b o hbo), hen, hl.of_keeps fun b o hb hnf => ?_, ?_⟩ ⟨_, _, self _, dat, ?_⟩ fun b o hb hnf => ?_
  · obtain ⟨sl, hs⟩ := hg.2.2 b o hb
    exact ⟨_, keep _ b _ (notE b o hb hnf) hs, rfl⟩
  · refine ⟨_, _, g.objs.size, _, _, self _, ⟨Obj.cls_mapFields _ _, by rw [Array.getElem?_setIfInBounds_ne (by decide)]; exact h0⟩, dat, by simp [hsz], gb.fresh, hT, (Heap.get?_update_other _ _ (Ne.symm hT)).trans (Heap.get?_push_size g rfl), rfl, ?_⟩
    first | (simp; done) | (rcases hpl with rfl | ⟨_, _, _, _, _, _, _, rfl⟩ <;> simp)
  · rw [Array.getElem?_setIfInBounds_ne (by decide)]; exact h2
  · obtain ⟨sl, hs⟩ := hg.2.2 b o hb
    exact ⟨sl, keep _ b _ (notE b o hb hnf) hs⟩

theorem land_held {B : Heap} {l : List Env} {e : Addr} {cls a0 fl : Value} {Q : Unit → Shared → Prop} (f1 : B.StaysIn s.heap) (f2 : B.get? e = none) (f3 : s.heap.FunFrames B l) (f4 : s.heap.TracedAtW B e cls a0 fl)
    (hQ : ∀ h', Heap.FlyingW B l e cls a0 h' → (∀ c, Fld2 s.heap e c → Fld2 h' e c) → s.heap.UpToSlots h' → Q () { s with heap := h' }) : wpAny M A (setFlight (.ref e) none) Q E s := by
  obtain ⟨oe, vs, T, oT, ts, he, hcls, hd, h1, hnT, hTe, hT, hdT, h3⟩ := f4
  have hsz3 : 3 < ts.size := (Array.getElem?_eq_some_iff.mp h3).1
  have other : ∀ b, b ≠ T → (s.heap.update T (Obj.mapFields (·.setIfInBounds 3 ((none : Option Addr).elim Value.none fun f => rawInt f)))).get? b = s.heap.get? b :=
    fun b hb => Heap.get?_update_other _ _ (Ne.symm hb)
  have notT : ∀ b o, s.heap.get? b = some o → (∀ ws, o.data ≠ .fields ws) → b ≠ T := fun b o hb hnf q => by
    rw [q, hT] at hb; injection hb with hb; subst hb; exact hnf ts hdT
  unfold setFlight
  refine wpAny_bind (wpAny_field he hd h1 ?_)
  rw [if_pos (show (Value.ref T != Value.none) = true from by simp)]
  refine wpAny_setField hT hdT hsz3 (hQ _ ⟨fun b o hbo => (other b fun q => by rw [q, hnT] at hbo; cases hbo).trans (f1 b o hbo), f2, f3.of_keeps fun b o hb hnf => ⟨o, (other b (notT b o hb hnf)).trans hb, rfl⟩, ?_⟩ ?_ fun b o hb hnf => ⟨o.slots, (other b (notT b o hb hnf)).trans hb⟩)
  · exact ⟨oe, vs, T, _, _, (other e (Ne.symm hTe)).trans he, hcls, hd, h1, hnT, hTe, Heap.get?_update_self _ hT (Obj.isFreed_of_fields (Obj.data_mapFields hdT _)), Obj.data_mapFields hdT _, by simp [hsz3]⟩
  · rintro c ⟨o, ws, ho, r⟩
    exact ⟨o, ws, (other e (Ne.symm hTe)).trans ho, r⟩
end
end Mine
end PartX2
section PartX3
open PySem PySem.W PyProof.Rows
set_option maxRecDepth 100000
set_option Elab.async false
namespace Mine
theorem entry_unchain : entryFor table "proto.unchain" = some Builtin.«proto.unchain» := entryFor_of_fast (by kernel_rfl)
section
variable {prog : Program} {w : World} {A : Around} {E : Value → Shared → Prop} {s : Shared} {env : Env}
theorem unchain_none {v : Value} {e1 : Addr} {Q : Value → Shared → Prop} (h2 : Fld2 s.heap e1 .none) (h : Q .none s) :
    wpAny (model prog w) A (runValue (.builtin "proto.unchain" ⟨[v, .ref e1, .ref e1, .bool false], []⟩)) Q E s := by
  obtain ⟨o, vs, ho, hd, hv⟩ := h2
  refine wpAny_runValue (codeAny_builtin entry_unchain ?_)
  unfold Builtin.«proto.unchain»
  refine wpAny_bind (wpAny_field ho hd hv ?_)
  rw [if_pos (by decide)]
  exact wpAny_pure h

theorem not_type {e : Addr} {o : Obj} {vs : Array Value} {Q : Bool → Shared → Prop} (he : s.heap.get? e = some o) (hd : o.data = .fields vs) (h : Q false s) : wpAny (model prog w) A (isType (.ref e)) Q E s := by
  unfold isType
  refine wpAny_bind (wpAny_loadPart he (wpAny_pure ?_))
  rw [hd]; exact h
theorem exc_inst {cls : String} (F : ExcRaiseFacts cls) {e : Addr} {o : Obj} {vs : Array Value} {m : String} {Q : Value → Shared → Prop} (he : s.heap.get? e = some o) (hc : o.cls = .type cls) (hd : o.data = .fields vs) (h : Q (.ref e) s) :
    wpAny (model prog w) A (excFromValue (.ref e) m) Q E s := by
  have hT : s.TypeIs (.ref e) cls := ⟨o, he, hc⟩
  unfold excFromValue isExcClass
  refine wpAny_bind (wpAny_bind (not_type he hd ?_))
  simp only [Bool.false_eq_true, if_false]
  refine wpAny_pure ?_
  simp only [Bool.false_eq_true, if_false]
  refine wpAny_bind (wpAny_isInstance hT F.isExc ?_)
  simp only [if_true]
  exact wpAny_pure h
theorem exc_raised {cls : String} (F : ExcRaiseFacts cls) {e : Addr} {o : Obj} {Q : Value → Shared → Prop} (he : s.heap.get? e = some o) (hc : o.cls = .type cls) (h : Q (.ref e) s) :
    wpAny (model prog w) A (raisedInstance (.ref e)) Q E s := by
  have hT : s.TypeIs (.ref e) cls := ⟨o, he, hc⟩
  unfold raisedInstance
  refine wpAny_bind (wpAny_typeOf hT ?_)
  refine wpAny_bind (m := typeOf (.type cls)) (wpAny_pure ?_)
  rw [if_pos F.plainMeta]
  exact wpAny_pure h
theorem no_flight {e : Addr} {o : Obj} {vs : Array Value} {Q : Unit → Shared → Prop} (he : s.heap.get? e = some o) (hd : o.data = .fields vs) (h1 : vs[1]? = some .none) (h : Q () s) : wpAny (model prog w) A (setFlight (.ref e) none) Q E s := by
  unfold setFlight
  refine wpAny_bind (wpAny_field he hd h1 ?_)
  rw [if_neg (by decide)]
  exact wpAny_pure h

theorem raise_from_none {cls : String} (F : ExcRaiseFacts cls) {x : Expr} {k : Nat} {p2 pos : Pos} {e1 : Addr} {Q : Flow → Shared → Prop} (hh : A.handled = some (.ref e1))
    (h : wpAny (model prog w) A (eval x env) (fun v s₁ => ∃ e t, v = .ref e ∧ e ≠ e1 ∧ s₁.heap.get? e = some { cls := .type cls, data := .fields #[.ref t, .none, .none, .none, .bool false, .none] } ∧ Fld2 s₁.heap e1 .none ∧
      ∀ h', (∀ b, b ≠ e → h'.get? b = s₁.heap.get? b) → h'.get? e = some { cls := .type cls, data := .fields #[.ref t, .none, .ref e1, .none, .bool true, .none] } → E (.ref e) { s₁ with heap := h' }) E s) :
    wpAny (model prog w) A (exec (.Raise (some x) (some (.Constant .none k p2)) pos) env) Q E s := by
  rw [arm_exec_Raise]
  show wpAny _ _ (do standAt pos; raiseStmt env (some (do let v ← eval x env; standAt pos; pure v)) (some (do let v ← eval (.Constant .none k p2) env; standAt pos; pure v))) Q E s
  refine wpAny_bind (wpAny_standAt ?_)
  unfold raiseStmt
  refine wpAny_bind (wpAny_bind (wpAny_mono h (fun v s₁ h₁ => ?_) fun _ _ x => x))
  obtain ⟨e, t, rfl, hne, he, hf, hE⟩ := h₁
  refine wpAny_bind (wpAny_standAt (wpAny_pure ?_))
  obtain ⟨hp, g, d, tk, os⟩ := s₁
  dsimp only at he hf hE
  refine wpAny_bind (wpAny_holding (wpAny_bind ?_))
  walk1
  refine wpAny_bind (wpAny_standAt (wpAny_pure ?_))
  refine wpAny_bind (wpAny_pure ?_)
  refine wpAny_bind (wpAny_holding (exc_inst F he rfl rfl ?_))
  dsimp only
  rw [if_pos (by decide)]
  refine wpAny_bind (wpAny_pure ?_)
  refine wpAny_bind (wpAny_setField he rfl (by simp) ?_)
  dsimp only
  have he1 : (hp.update e (Obj.mapFields fun x => x.setIfInBounds 3 Value.none)).get? e = some { cls := .type cls, data := .fields #[.ref t, .none, .none, .none, .bool false, .none] } := Heap.get?_update_self _ he rfl
  refine wpAny_bind (wpAny_setField he1 rfl (by simp) ?_)
  dsimp only
  have he2 := Heap.get?_update_self (Obj.mapFields fun x => x.setIfInBounds 4 (Value.bool true)) he1 rfl
  have he2' : ((hp.update e (Obj.mapFields fun x => x.setIfInBounds 3 Value.none)).update e (Obj.mapFields fun x => x.setIfInBounds 4 (Value.bool true))).get? e = some { cls := .type cls, data := .fields #[.ref t, .none, .none, .none, .bool true, .none] } := he2
  have oth : ∀ b, b ≠ e → ((hp.update e (Obj.mapFields fun x => x.setIfInBounds 3 Value.none)).update e (Obj.mapFields fun x => x.setIfInBounds 4 (Value.bool true))).get? b = hp.get? b := fun b hb => by
    rw [Heap.get?_update_other _ _ (Ne.symm hb), Heap.get?_update_other _ _ (Ne.symm hb)]
  generalize (hp.update e (Obj.mapFields fun x => x.setIfInBounds 3 Value.none)).update e (Obj.mapFields fun x => x.setIfInBounds 4 (Value.bool true)) = h2 at he2' oth ⊢
  refine wpAny_bind (not_type he2' rfl ?_)
  simp only [Bool.false_eq_true, if_false]
  refine wpAny_bind (exc_raised F he2' rfl ?_)
  refine wpAny_bind (no_flight he2' rfl rfl ?_)
  unfold raiseNew
  refine wpAny_bind (wpAny_handled ?_)
  rw [hh]
  dsimp only
  have hb : (Value.ref e1 != Value.ref e) = true := by
    rw [bne_iff_ne]; intro q; injection q with q; exact hne q.symm
  rw [if_pos hb]
  have hf2 : Fld2 h2 e1 .none := by
    obtain ⟨o, vs, ho, r⟩ := hf
    exact ⟨o, vs, (oth e1 (Ne.symm hne)).trans ho, r⟩
  refine wpAny_bind (wpAny_holding (unchain_none hf2 ?_))
  refine wpAny_bind (show wpAny _ _ (setField (.ref e) 2 (.ref e1)) _ _ _ from wpAny_setField he2' rfl (by simp) ?_)
  refine wpAny_throw (hE _ (fun b hb => (Heap.get?_update_other _ _ (Ne.symm hb)).trans (oth b hb)) ?_)
  exact Heap.get?_update_self _ he2' rfl
end
end Mine
end PartX3
section PartX4
open PySem PySem.W PyProof.Rows
set_option maxRecDepth 100000
set_option Elab.async false
namespace Mine
section
variable {prog : Program} {w : World} {A : Around} {E : Value → Shared → Prop} {s : Shared} {env : Env}
theorem mk_exc {cls newId initId : String} (F : ExcCallFacts cls newId initId) {x : Str} {np cpos : Pos} {e₀ : Expr} {Q : Value → Shared → Prop}
    (h : wpAny (model prog w) A (eval (.Name x np) env) (fun f s₁ => f = .type cls ∧ wpAny (model prog w) A (spliced (backTo cpos (starEach [e₀] env)))
      (fun vs s₂ => vs.length ≤ sizeLine ∧ ∀ h' e, Heap.MadeExc s₂.heap h' e cls vs → Q (.ref e) { s₂ with heap := h' }) E s₁) E s)
    (he : starEach [e₀] env = (false, eval e₀ env) :: starEach [] env := by rfl) :
    wpAny (model prog w) A (eval (.Call (.Name x np) [e₀] [] cpos) env) Q E s := by
  refine wpAny_Call_ofName (wpAny_mono h (fun f s₁ h₁ => ?_) fun _ _ x => x)
  obtain ⟨rfl, h₁⟩ := h₁
  rw [he] at h₁ ⊢
  refine callWith_excType rfl (Calls.evalArgs_plain (wpAny_mono h₁ (fun vs s₂ h₂ => ?_) fun _ _ x => x))
  obtain ⟨hp, g, d, tk, os⟩ := s₂
  exact wpAny_call_exc F (hrest := h₂.1) h₂.2
end
section
variable {prog : Program} {w : World} {A₀ : Around} {R : Value → Shared → Prop} {s' : Shared} {base g h : Heap} {outer : List Env} {L a e : Addr} {m : Str → Option Value} {name : Str} {scope : Scope} {cd : Value}
  {pos np cpos rpos p1 p2 : Pos} {k1 k2 : Nat} {rest : List ExceptHandler} {Q : Flow → Shared → Prop} {news : List (Addr × Obj)} {KF : Frag} {tt : Expr} {msg : Str} {x : Str} {X cls newId initId : String}
  {p : Program} {loose : List Str} {mean : ExcName → Option Value} {mg mb : Str → Option Value}
set_option maxHeartbeats 1000000 in
theorem handler_raises (FC : ExcCallFacts cls newId initId) (FR : ExcRaiseFacts cls) (K : Below A₀ base outer g) (F : Fr g L h m) (N : News g L h news) (hx : Heap.NewExc h s'.heap e X) (XB : KF.In base) (TB : Top p loose mean mg mb base)
    (T : KtsTest prog w KF p loose mg mb name scope L a cd (.type X) tt true) (hn : KtsName KF x (.type cls)) (hm : msg.length ≤ sizeLine)
    (ret : ∀ h' tk e2 t u, RaisedS base g outer e2 (.type cls) t [.str msg u] news h' → g.UpToSlots h' → R (.ref e2) { s' with heap := h', toks := tk })
    (hk : scope.kind = .function) (hxk : (envOf name scope L a cd).kindOf x = some .globalImplicit) (hxd : (x == ("__debug__" : Str)) = false)
    (hE : PassesOwnAt (model prog w) ((A₀.deeper (envOf name scope L a cd)).mark (some (.ref e))) (A₀.deeper (envOf name scope L a cd)) (envOf name scope L a cd) (fun e s' => wpAny (model prog w) (A₀.deeper (envOf name scope L a cd)) (leaving (envOf name scope L a cd) e) (fun _ s'' => R e s'') (fun e' s'' => R e' s'') s')) :
    wpAny (model prog w) (A₀.deeper (envOf name scope L a cd)) (noteFrame (.ref e) (envOf name scope L a cd))
      (fun _ s₂ => wpAny (model prog w) (A₀.deeper (envOf name scope L a cd)) (setFlight (.ref e) none) (fun _ s₃ =>
        wpAny (model prog w) (A₀.deeper (envOf name scope L a cd)) (handleBy (.ref e) (envOf name scope L a cd)
          (.ExceptHandler (some tt) none [.Raise (some (.Call (.Name x np) [.Constant (.str msg) k1 p1] [] cpos)) (some (.Constant .none k2 p2)) rpos] pos :: rest)) Q
          (fun e s' => wpAny (model prog w) (A₀.deeper (envOf name scope L a cd)) (leaving (envOf name scope L a cd) e) (fun _ s'' => R e s'') (fun e' s'' => R e' s'') s') s₃)
          (fun e s' => wpAny (model prog w) (A₀.deeper (envOf name scope L a cd)) (leaving (envOf name scope L a cd) e) (fun _ s'' => R e s'') (fun e' s'' => R e' s'') s') s₂)
          (fun e s' => wpAny (model prog w) (A₀.deeper (envOf name scope L a cd)) (leaving (envOf name scope L a cd) e) (fun _ s'' => R e s'') (fun e' s'' => R e' s'') s') s' := by
  have K' := K.push (name := name) (a := a) (cd := cd) F hk
  have hin : ∀ env ∈ (envOf name scope L a cd :: outer), ∀ b, env.frame = some b → b ∈ (envOf name scope L a cd :: outer).filterMap (·.frame) := fun env he b hb => List.mem_filterMap.mpr ⟨env, he, hb⟩
  have hin' : ∀ env ∈ outer, ∀ b, env.frame = some b → b ∈ outer.filterMap (·.frame) := fun env he b hb => List.mem_filterMap.mpr ⟨env, he, hb⟩
  -- what no frame is, as it stood
  obtain ⟨BB, hBB⟩ : ∃ BB, BB = hideAll h ((envOf name scope L a cd :: outer).filterMap (·.frame)) := ⟨_, rfl⟩
  have bh : BB.StaysIn h := fun b o q => by rw [hBB] at q; exact of_hideAll _ q
  have hb : ∀ b o, h.get? b = some o → b ∉ (envOf name scope L a cd :: outer).filterMap (·.frame) → BB.get? b = some o := fun b o q nm => by rw [hBB]; exact hideAll_get _ q nm
  have st : base.StaysIn BB := fun b o q => hb b o (K'.stays b o q) fun hm => by
    rw [(K'.frames.mem hm).1] at q; cases q
  have sg : ∀ b o, g.get? b = some o → b ∉ outer.filterMap (·.frame) → BB.get? b = some o := fun b o q nm => hb b o (F.keep b o q) fun hm => by
    rcases kts_mem hm with z | z
    · rw [z, kts_self F] at q; cases q
    · exact nm z
  have hl : ∀ q ∈ news, BB.get? q.1 = some q.2 ∧ g.get? q.1 = none ∧ base.get? q.1 = none := fun q hq => by
    refine ⟨hb _ _ (N q hq).1 fun hm => ?_, (N q hq).2.2, fresh_of_stays K.stays (N q hq).2.2⟩
    obtain ⟨env, he, hf⟩ := List.mem_filterMap.mp hm
    rcases List.mem_cons.mp he with rfl | he
    · exact (N q hq).2.1 (Option.some.inj hf).symm
    · obtain ⟨o, ho, _⟩ := (K.frames.mem (List.mem_filterMap.mpr ⟨env, he, hf⟩)).2
      rw [(N q hq).2.2] at ho; cases ho
  have ff : h.FunFrames BB (envOf name scope L a cd :: outer) := by rw [hBB]; exact funFrames_hide K'.frames hin
  obtain ⟨oe, t1, he, hec, hed⟩ := hx.there
  have fresh : ∀ b, h.get? b = none → BB.get? b = none := fun b q => by
    cases z : BB.get? b with
    | none => rfl
    | some o => rw [bh b o z] at q; cases q
  refine note_first (B := BB) (L := L) K'.stack (ff.of_keeps fun b o q _ => ⟨o, hx.keeps b o q, rfl⟩) rfl he (fun b o q => hx.keeps b o (bh b o q)) (fresh e hx.new) hed rfl rfl rfl fun h2 w2 f2 u2 => ?_
  rw [hec] at w2
  refine land_held w2.1 w2.2.1 w2.2.2.1 w2.2.2.2 fun h3 w3 f3 u3 => ?_
  have f3' := f3 _ f2
  have u03 : h.UpToSlots h3 := ((Heap.UpToSlots.of_keeps hx.keeps).trans u2).trans u3
  obtain ⟨g5, T5, F5, K5⟩ := kts_ground (name := name) (scope := scope) (a := a) (cd := cd) K F hb w3.1 u03
  obtain ⟨ob, hob, hobc⟩ := w3.there
  have ty3 : Looks (model prog w) h3 (typeOf (.ref e)) (.type X) := by rw [← hobc]; exact (Looks.ld hob).andThen .now
  refine wpAny_handleBy_cons (codeAny_handlers_test (T _ _ _ _ g5 e m F5 (XB.keeps K5.stays) (topRead_of (TB.keeps K5.stays)) ty3 fun h4 kp => ?_)) (by intro q; cases q)
  have w4 : Heap.FlyingW BB (envOf name scope L a cd :: outer) e (.type X) t1 h4 := flying_keeps w3 kp
  refine codeAny_handlers_suite ?_
  refine land_held w4.1 w4.2.1 w4.2.2.1 w4.2.2.2.at fun h5 w5 f5 u5 => ?_
  have f5' := f5 _ (f3'.keeps kp)
  have u05 : h.UpToSlots h5 := (u03.trans (Heap.UpToSlots.of_keeps kp)).trans u5
  obtain ⟨g6, T6, F6, K6⟩ := kts_ground (name := name) (scope := scope) (a := a) (cd := cd) K F hb w5.1 u05
  refine wpAny_passesOwnAt hE (wpAny_execs_cons ?_)
  refine raise_from_none FR (e1 := e) rfl ?_
  refine mk_exc FC (kts_name hn F6 (XB.keeps K6.stays) (topRead_of (TB.keeps K6.stays)) ⟨rfl, ?_⟩ hk hxk hxd)
  repeat ((with_reducible show wpAny _ _ _ _ _ _); walk1; (try dsimp only))
  refine ⟨by rw [sizeLine_eq]; simp, fun h6 e2 hm2 => ?_⟩
  obtain ⟨t, he2, htn, ht⟩ := hm2.there
  obtain ⟨o5, ho5, _⟩ := w5.there
  have hne2 : e2 ≠ e := fun q => by have z := hm2.new; rw [q] at z; rw [ho5] at z; cases z
  refine ⟨e2, t, rfl, hne2, he2, f5'.keeps hm2.keeps, fun h7 ho7 he7 => ?_⟩
  have k57 : ∀ b o, h5.get? b = some o → h7.get? b = some o := fun b o q => by
    have hne : b ≠ e2 := fun z => by rw [z, hm2.new] at q; cases q
    exact (ho7 b hne).trans (hm2.keeps b o q)
  have ht7 : h7.get? t = some { cls := .type "tuple", data := .seq [Value.str msg _].toArray } := (ho7 t fun z => by
    rw [z, he2] at ht; cases ht).trans ht
  have fr5 : ∀ b, h5.get? b = none → BB.get? b = none := fun b q => by
    cases z : BB.get? b with
    | none => rfl
    | some o => rw [w5.1 b o z] at q; cases q
  refine wpAny_leaving_firstW (base := BB) (a0 := .ref t) K'.stack (w5.2.2.1.of_keeps fun b o q _ => ⟨o, k57 b o q, rfl⟩) rfl he7 (fun b o q => k57 b o (w5.1 b o q)) (fr5 e2 hm2.new) rfl rfl rfl fun h8 hL => ?_
  obtain ⟨k1, ⟨_, _, k2⟩, k3, k4⟩ := hL
  refine ret h8 _ e2 t _ ⟨⟨BB, st, sg, hl, ⟨k1, fr5 e2 hm2.new, k2, k3⟩, fr5 t htn⟩, Heap.TupAt.of_slots ⟨_, _, ht7, rfl, rfl⟩ k4⟩ ?_
  exact (((Heap.UpToSlots.of_keeps F.keep).trans u05).trans (Heap.UpToSlots.of_keeps k57)).trans k4
end
end Mine
end PartX4
section PartS8
open PySem PySem.W PyProof.Rows
set_option maxRecDepth 100000
set_option Elab.async false
namespace Mine
theorem fill8 (P : Params) : (fun (_ : OpenLaw) => nsIn (Mine.hd.heap_39 P) mainGlobals (Str.ofString "zz")) PySem.Challenge.rw_oy0031_01 = (fun (_ : OpenLaw) => nsIn (Mine.hd.heap_39 P) mainGlobals (Str.ofString "zz")) PySem.Challenge.rw_oy0031_01 := by
  k_fill
  rfl
def badMsg : Str := Str.ofString "Locale must be None, a string, or an iterable of two strings -- language code, encoding."
theorem badMsg_len : badMsg.length ≤ sizeLine := by unfold badMsg; rw [PySem.ofString_length, PySem.sizeLine_eq]; decide

set_option maxHeartbeats 4000000 in
theorem build_bad1 {prog : Program} {w : World} {p : Program} {loose : List Str} {mean : ExcName → Option Value} {mg mb : Str → Option Value}
   {dp un : Nat} {gd : Option (List Code)} {cn : Str} {cs : Scope} {a : Addr} {ccd : Value} {cl : List (Str × Addr)} {outer : List Env} {A₀ : Around} {base h₀ : Heap} {L : Addr} {m : Str → Option Value} {s : Shared} {Q E : Value → Shared → Prop}
   (B : Below A₀ base outer h₀) (F : Fr h₀ L s.heap m) (X : (Mine.hd.heap_39 w.params).In h₀) (T : Top p loose mean mg mb h₀) (hk : cs.kind = .function) (hd : dp + 5 < recursionLimit) (hu : un + 96 < cLine) (XB : (Mine.hd.heap_39 w.params).In base) (TB : Top p loose mean mg mb base)
   {news : List (Addr × Obj)} {al : Addr} {t : Tok} {nn : Nat} (N : News h₀ L s.heap news) (hm : (al, ({ cls := .type "tuple", data := .seq [.str (Str.ofString "de") t].toArray nn } : Obj)) ∈ news)
   (ret : ∀ g h' tk' e t u, Fr h₀ L g m → RaisedS base g (envX cn cs L a ccd cl :: outer) e (.type "TypeError") t [.str badMsg u] news h' → g.UpToSlots h' → E (.ref e) { s with heap := h', toks := tk' }) :
   wpAny (model prog w) (ktrTop dp un gd cn cs L a ccd cl outer) (call (.ref 21) [.ref al]) Q E s := by
  refine wpAny_call ?_
  k_dflt ktr_enter
  generalize s.toks + List.length _ = tk0
  rename_i g L1 h1 FG F1 N1 B1 X1 T1
  replace F1 := fr_binds F1 (l := [((Str.ofString "localetuple"), .ref al)]) rfl
  repeat ((first | (with_reducible show wpAny _ _ _ _ _ _) | (with_reducible show ite _ _ _)); (fail_if_success (with_reducible show wpAny _ _ (exec (PySem.Stmt.While _ _ _ _) _) _ _ _)); (fail_if_success (with_reducible show wpAny _ _ (pyIter _) _ _ _)); walk1; (try dsimp only))
  refine unpack_tup1 rfl ⟨_, (N1 _ hm).1, rfl, nn, rfl⟩ rfl rfl ?_
  intro h2 h3 tk e kp hx
  k_dflt (refine handler_raises (msg := badMsg) PySem.F.excCall_TypeError PySem.F.excRaise_TypeError B1 (F1.kept kp) (N1.grown kp) hx XB TB ?T ?hn badMsg_len ?ret rfl rfl (by decide) ?hE)
  case T => kts_test
  case hn => kts_nm
  case hE => passes_own
  case ret =>
    intro h' tk' e2 t2 u R U
    exact ret g h' tk' e2 t2 u FG R U

set_option maxHeartbeats 4000000 in
theorem build_bad2 {prog : Program} {w : World} {p : Program} {loose : List Str} {mean : ExcName → Option Value} {mg mb : Str → Option Value}
   {dp un : Nat} {gd : Option (List Code)} {cn : Str} {cs : Scope} {a : Addr} {ccd : Value} {cl : List (Str × Addr)} {outer : List Env} {A₀ : Around} {base h₀ : Heap} {L : Addr} {m : Str → Option Value} {s : Shared} {Q E : Value → Shared → Prop}
   (B : Below A₀ base outer h₀) (F : Fr h₀ L s.heap m) (X : (Mine.hd.heap_39 w.params).In h₀) (T : Top p loose mean mg mb h₀) (hk : cs.kind = .function) (hd : dp + 5 < recursionLimit) (hu : un + 96 < cLine) (XB : (Mine.hd.heap_39 w.params).In base) (TB : Top p loose mean mg mb base)
   {news : List (Addr × Obj)} {al : Addr} {t1 t2 t3 : Tok} {nn : Nat} (N : News h₀ L s.heap news) (hm : (al, listOf [.str (Str.ofString "de") t1, .str (Str.ofString "UTF-8") t2, .str (Str.ofString "x") t3].toArray nn) ∈ news)
   (ret : ∀ g h' tk' e t u, Fr h₀ L g m → RaisedS base g (envX cn cs L a ccd cl :: outer) e (.type "TypeError") t [.str badMsg u] news h' → g.UpToSlots h' → E (.ref e) { s with heap := h', toks := tk' }) :
   wpAny (model prog w) (ktrTop dp un gd cn cs L a ccd cl outer) (call (.ref 21) [.ref al]) Q E s := by
  refine wpAny_call ?_
  k_dflt ktr_enter
  generalize s.toks + List.length _ = tk0
  rename_i g L1 h1 FG F1 N1 B1 X1 T1
  replace F1 := fr_binds F1 (l := [((Str.ofString "localetuple"), .ref al)]) rfl
  repeat ((first | (with_reducible show wpAny _ _ _ _ _ _) | (with_reducible show ite _ _ _)); (fail_if_success (with_reducible show wpAny _ _ (exec (PySem.Stmt.While _ _ _ _) _) _ _ _)); (fail_if_success (with_reducible show wpAny _ _ (pyIter _) _ _ _)); walk1; (try dsimp only))
  refine unpack_list3 rfl ⟨_, (N1 _ hm).1, rfl, nn, rfl⟩ rfl rfl ?_
  intro h2 h3 tk e kp hx
  k_dflt (refine handler_raises (msg := badMsg) PySem.F.excCall_TypeError PySem.F.excRaise_TypeError B1 (F1.kept kp) (N1.grown kp) hx XB TB ?T ?hn badMsg_len ?ret rfl rfl (by decide) ?hE)
  case T => kts_test
  case hn => kts_nm
  case hE => passes_own
  case ret =>
    intro h' tk' e2 t2 u R U
    exact ret g h' tk' e2 t2 u FG R U

set_option maxHeartbeats 4000000 in
theorem build_bad3 {prog : Program} {w : World} {p : Program} {loose : List Str} {mean : ExcName → Option Value} {mg mb : Str → Option Value}
   {dp un : Nat} {gd : Option (List Code)} {cn : Str} {cs : Scope} {a : Addr} {ccd : Value} {cl : List (Str × Addr)} {outer : List Env} {A₀ : Around} {base h₀ : Heap} {L : Addr} {m : Str → Option Value} {s : Shared} {Q E : Value → Shared → Prop}
   (B : Below A₀ base outer h₀) (F : Fr h₀ L s.heap m) (X : (Mine.hd.heap_39 w.params).In h₀) (T : Top p loose mean mg mb h₀) (hk : cs.kind = .function) (hd : dp + 5 < recursionLimit) (hu : un + 96 < cLine) (XB : (Mine.hd.heap_39 w.params).In base) (TB : Top p loose mean mg mb base)
   {news : List (Addr × Obj)} {al : Addr} {t1 t2 : Tok} {nn : Nat} (N : News h₀ L s.heap ((al, ({ cls := .type "tuple", data := .seq [.int 5 t1, .str (Str.ofString "UTF-8") t2].toArray nn } : Obj)) :: news)) 
   (ret : ∀ g h' tk' e t u, Fr h₀ L g m → RaisedS base g (envX cn cs L a ccd cl :: outer) e (.type "TypeError") t [.str badMsg u] ((al, ({ cls := .type "tuple", data := .seq [.int 5 t1, .str (Str.ofString "UTF-8") t2].toArray nn } : Obj)) :: news) h' → g.UpToSlots h' → E (.ref e) { s with heap := h', toks := tk' }) :
   wpAny (model prog w) (ktrTop dp un gd cn cs L a ccd cl outer) (call (.ref 21) [.ref al]) Q E s := by
  refine wpAny_call ?_
  k_dflt ktr_enter
  generalize s.toks + List.length _ = tk0
  rename_i g L1 h1 FG F1 N1 B1 X1 T1
  replace F1 := fr_binds F1 (l := [((Str.ofString "localetuple"), .ref al)]) rfl
  repeat ((first | (with_reducible show wpAny _ _ _ _ _ _) | (with_reducible show ite _ _ _)); (fail_if_success (with_reducible show wpAny _ _ (exec (PySem.Stmt.While _ _ _ _) _) _ _ _)); (fail_if_success (with_reducible show wpAny _ _ (pyIter _) _ _ _)); walk1; (try dsimp only))
  refine add_int_str rfl ?_
  intro h3 tk e hx
  rename Fr _ _ _ _ => F2
  rename News _ _ _ _ => N2
  k_dflt (refine handler_raises (msg := badMsg) PySem.F.excCall_TypeError PySem.F.excRaise_TypeError B1 F2 N2 hx XB TB ?T ?hn badMsg_len ?ret rfl rfl (by decide) ?hE)
  case T => kts_test
  case hn => kts_nm
  case hE => passes_own
  case ret =>
    intro h' tk' e2 t2 u R U
    exact ret g h' tk' e2 t2 u FG R U

set_option maxHeartbeats 4000000 in
theorem build_bad4 {prog : Program} {w : World} {p : Program} {loose : List Str} {mean : ExcName → Option Value} {mg mb : Str → Option Value}
   {dp un : Nat} {gd : Option (List Code)} {cn : Str} {cs : Scope} {a : Addr} {ccd : Value} {cl : List (Str × Addr)} {outer : List Env} {A₀ : Around} {base h₀ : Heap} {L : Addr} {m : Str → Option Value} {s : Shared} {Q E : Value → Shared → Prop}
   (B : Below A₀ base outer h₀) (F : Fr h₀ L s.heap m) (X : (Mine.hd.heap_39 w.params).In h₀) (T : Top p loose mean mg mb h₀) (hk : cs.kind = .function) (hd : dp + 5 < recursionLimit) (hu : un + 96 < cLine) (XB : (Mine.hd.heap_39 w.params).In base) (TB : Top p loose mean mg mb base)
   {news : List (Addr × Obj)} {t1 : Tok} (N : News h₀ L s.heap news) 
   (ret : ∀ g h' tk' e t u, Fr h₀ L g m → RaisedS base g (envX cn cs L a ccd cl :: outer) e (.type "TypeError") t [.str badMsg u] news h' → g.UpToSlots h' → E (.ref e) { s with heap := h', toks := tk' }) :
   wpAny (model prog w) (ktrTop dp un gd cn cs L a ccd cl outer) (call (.ref 21) [.int 7 t1]) Q E s := by
  refine wpAny_call ?_
  k_dflt ktr_enter
  generalize s.toks + List.length _ = tk0
  rename_i g L1 h1 FG F1 N1 B1 X1 T1
  replace F1 := fr_binds F1 (l := [((Str.ofString "localetuple"), .int 7 t1)]) rfl
  repeat ((first | (with_reducible show wpAny _ _ _ _ _ _) | (with_reducible show ite _ _ _)); (fail_if_success (with_reducible show wpAny _ _ (exec (PySem.Stmt.While _ _ _ _) _) _ _ _)); (fail_if_success (with_reducible show wpAny _ _ (pyIter _) _ _ _)); walk1; (try dsimp only))
  refine unpack_int rfl rfl rfl ?_
  intro h2 h3 tk e kp hx
  k_dflt (refine handler_raises (msg := badMsg) PySem.F.excCall_TypeError PySem.F.excRaise_TypeError B1 (F1.kept kp) (N1.grown kp) hx XB TB ?T ?hn badMsg_len ?ret rfl rfl (by decide) ?hE)
  case T => kts_test
  case hn => kts_nm
  case hE => passes_own
  case ret =>
    intro h' tk' e2 t2 u R U
    exact ret g h' tk' e2 t2 u FG R U

def BadD (d : Dat) : Prop := d = .tuple [.str (Str.ofString "de")] ∨ d = .list [.str (Str.ofString "de"), .str (Str.ofString "UTF-8"), .str (Str.ofString "x")] ∨ d = .tuple [.int 5, .str (Str.ofString "UTF-8")] ∨ d = .int 7

theorem RaisedS.sub {base G : Heap} {l : List Env} {e t : Addr} {cls : Value} {vs : List Value} {news news' : List (Addr × Obj)} {h : Heap} (R : RaisedS base G l e cls t vs news h) (hs : ∀ q ∈ news', q ∈ news) : RaisedS base G l e cls t vs news' h := by
  obtain ⟨⟨B, hB, hBG, hl, hfl, hnew⟩, htup⟩ := R
  exact ⟨⟨B, hB, hBG, fun q hq => hl q (hs q hq), hfl, hnew⟩, htup⟩

theorem build_bad {prog : Program} {w : World} {p : Program} {loose : List Str} {mean : ExcName → Option Value} {mg mb : Str → Option Value}
   {dp un : Nat} {gd : Option (List Code)} {cn : Str} {cs : Scope} {a : Addr} {ccd : Value} {cl : List (Str × Addr)} {outer : List Env} {A₀ : Around} {base h₀ : Heap} {L : Addr} {m : Str → Option Value} {s : Shared} {Q E : Value → Shared → Prop}
   (B : Below A₀ base outer h₀) (F : Fr h₀ L s.heap m) (X : (Mine.hd.heap_39 w.params).In h₀) (T : Top p loose mean mg mb h₀) (hk : cs.kind = .function) (hd : dp + 5 < recursionLimit) (hu : un + 96 < cLine) (XB : (Mine.hd.heap_39 w.params).In base) (TB : Top p loose mean mg mb base)
   {news : List (Addr × Obj)} {v : Value} {d : Dat} (N : News h₀ L s.heap news) (hv : DatIn news v d) (hb : BadD d)
   (ret : ∀ g h' tk' e t u, Fr h₀ L g m → RaisedS base g (envX cn cs L a ccd cl :: outer) e (.type "TypeError") t [.str badMsg u] news h' → g.UpToSlots h' → E (.ref e) { s with heap := h', toks := tk' }) :
   wpAny (model prog w) (ktrTop dp un gd cn cs L a ccd cl outer) (call (.ref 21) [v]) Q E s := by
  rcases hb with rfl | rfl | rfl | rfl
  · cases hv with
    | tuple hm r =>
      cases r with
      | cons h1 r =>
        cases r; cases h1
        exact build_bad1 B F X T hk hd hu XB TB N hm ret
  · cases hv with
    | list hm r =>
      cases r with
      | cons h1 r =>
      cases r with
      | cons h2 r =>
      cases r with
      | cons h3 r =>
        cases r; cases h1; cases h2; cases h3
        exact build_bad2 B F X T hk hd hu XB TB N hm ret
  · cases hv with
    | tuple hm r =>
      cases r with
      | cons h1 r =>
      cases r with
      | cons h2 r =>
        cases r; cases h1; cases h2
        exact build_bad3 (news := news) B F X T hk hd hu XB TB (fun p hp => by
          rcases List.mem_cons.mp hp with rfl | hp
          · exact N _ hm
          · exact N p hp) fun g h' tk' e t u FG R U => ret g h' tk' e t u FG (RaisedS.sub R fun _ h => .tail _ h) U
  · cases hv
    exact build_bad4 B F X T hk hd hu XB TB N ret
end Mine
end PartS8
section PartB6
open PySem PySem.W PyProof.Rows
set_option maxRecDepth 100000
set_option Elab.async false
namespace Mine
theorem DatAll.getD' {news : List (Addr × Obj)} {vs : List Value} {ds : List Dat} (h : DatAll news vs ds) (i : Nat) : DatIn news (vs.getD i .none) (ds.getD i .none) := by
  by_cases hi : i < ds.length
  · obtain ⟨v, hv, hd⟩ := h.get hi
    rw [List.getD_eq_getElem?_getD, hv, List.getD_eq_getElem?_getD, List.getElem?_eq_getElem hi]
    exact hd
  · have hl := h.length
    rw [List.getD_eq_getElem?_getD, List.getElem?_eq_none (by omega), List.getD_eq_getElem?_getD, List.getElem?_eq_none (by omega)]
    exact .none
theorem DatIn.up {news : List (Addr × Obj)} {v : Value} {d : Dat} (h : DatIn [] v d) : DatIn news v d := DatIn.mono (fun _ h => by cases h) h
theorem reo {α : Type} {a b : α} {add fz r own : List α} : ∀ q ∈ (a :: b :: ((add ++ fz) ++ r)) ++ own, q ∈ add ++ (a :: ((b :: (fz ++ r)) ++ own)) := by
  intro q hq
  simp only [List.mem_cons, List.mem_append] at hq ⊢
  grind
theorem ownoff_new {own add fz r : List (Addr × Obj)} {a : Addr} {o o' : Obj} {b : Addr × Obj} (h : OwnOff own (((a, o) :: b :: (fz ++ r)).map (·.1))) (h1 : ∀ q ∈ add, ∀ p ∈ own, p.1 ≠ q.1) : OwnOff own (((a, o') :: b :: ((add ++ fz) ++ r)).map (·.1)) := by
  intro p hp x hx
  obtain ⟨q, hq, rfl⟩ := List.mem_map.mp hx
  rcases List.mem_cons.mp hq with rfl | hq
  · exact h p hp a (.head _)
  · rcases List.mem_cons.mp hq with rfl | hq
    · exact h p hp _ (.tail _ (.head _))
    · rcases List.mem_append.mp hq with hq | hq
      · rcases List.mem_append.mp hq with hq | hq
        · exact h1 q hq p hp
        · exact h p hp _ (List.mem_map.mpr ⟨q, .tail _ (.tail _ (List.mem_append.mpr (.inl hq))), rfl⟩)
      · exact h p hp _ (List.mem_map.mpr ⟨q, .tail _ (.tail _ (List.mem_append.mpr (.inr hq))), rfl⟩)
theorem datall_snoc {α : Type} {fz add : List (Addr × Obj)} {vs : List Value} {v : Value} {xs : List α} {x : α} {f : α → Dat} {i : Nat} (h : DatAll fz vs ((xs.take i).map f)) (hx : xs[i]? = some x) (hv : DatIn (add ++ fz) v (f x)) :
    DatAll (add ++ fz) (vs ++ [v]) ((xs.take (i + 1)).map f) := by
  have e : xs.take (i + 1) = xs.take i ++ [x] := by rw [List.take_add_one, hx]; rfl
  rw [e, List.map_append]
  exact (DatAll.mono (fun p hp => List.mem_append.mpr (.inr hp)) h).append (DatAll.one hv)
theorem upd_app {d : Addr} {o o' : Obj} {r : List (Addr × Obj)} (hr : ∀ p ∈ r, p.1 ≠ d) : ∀ add : List (Addr × Obj), (∀ q ∈ add, q.1 ≠ d) → Upd d o o' (add ++ (d, o) :: r) (add ++ (d, o') :: r)
  | [], _ => .head hr
  | q :: add, h => .tail (h q (.head _)) (upd_app hr add fun z hz => h z (.tail _ hz))
theorem ints_at {vs : List Value} {ns : List Int} (h : IntsAre vs ns) : ∀ {i : Nat} {v : Value}, vs[i]? = some v → ∃ x t, ns[i]? = some x ∧ v = .int x t := by
  induction h with
  | nil => intro i v hv; simp at hv
  | cons k t r ih =>
    intro i v hv
    cases i with
    | zero => exact ⟨k, t, rfl, by simpa using hv.symm⟩
    | succ i => exact ih (by simpa using hv)
section
variable {prog : Program} {w : World} {A : Around} {E : Value → Shared → Prop} {s : Shared} {h₀ : Heap} {L D : Addr} {m : Str → Option Value} {news rest : List (Addr × Obj)} {n : Nat} {vs : List Value}
theorem menu_getItem {k : Int} {u : Tok} {Q : Value → Shared → Prop} (N : News h₀ L s.heap news) (hm : (D, listOf vs.toArray n) ∈ news) (h0 : 0 ≤ k) (h1 : k < (vs.length : Int)) (h64 : vs.length ≤ 100) (h : Q (vs.getD k.toNat .none) s) :
    wpAny (model prog w) A (getItem (.ref D) (.int k u)) Q E s := by
  have hl : s.heap.IsList D vs.toArray := ⟨_, (N _ hm).1, rfl, n, rfl⟩
  refine wpAny_getItem_list hl h0 (by omega) ?_ h
  have hk : k.toNat < vs.length := by omega
  simp [hk]
theorem menu_item {value slice : PySem.Expr} {k : Int} {u : Tok} {Q : Value → Shared → Prop} (N : News h₀ L s.heap news) (hm : (D, listOf vs.toArray n) ∈ news) (h0 : 0 ≤ k) (h1 : k < (vs.length : Int)) (h64 : vs.length ≤ 100) (h : Q (vs.getD k.toNat .none) s)
    (hs : subscripted slice false (.ref D) (.int k u) = operate [.ref D, .int k u] (getItem (.ref D) (.int k u)) := by with_unfolding_all rfl) :
    wpAny (model prog w) A (subscriptTail value slice (.ref D) (.int k u)) Q E s := by
  have hl : s.heap.IsList D vs.toArray := ⟨_, (N _ hm).1, rfl, n, rfl⟩
  exact tail_any hl.typeIs slot_list_getitem.lookup (menu_getItem N hm h0 h1 h64 h) hs
theorem tup_new {vs : List Value} {Q : Value → Shared → Prop} (F : Fr h₀ L s.heap m) (N : News h₀ L s.heap news)
    (h : ∀ D h', Fr h₀ L h' m → News h₀ L h' ((D, ({ cls := .type "tuple", data := .seq vs.toArray } : Obj)) :: news) → (∀ p ∈ news, p.1 < D) → Q (.ref D) { s with heap := h' }) (hsz : vs.length ≤ sizeLine) : wpAny (model prog w) A (newTuple vs) Q E s :=
  newTuple_N F N (fun h' F' N' => h _ h' F' N' fun p hp => Heap.lt_size (N p hp).1) hsz
theorem lst_new {vs : List Value} {Q : Value → Shared → Prop} (F : Fr h₀ L s.heap m) (N : News h₀ L s.heap news)
    (h : ∀ D h', Fr h₀ L h' m → News h₀ L h' ((D, listOf vs.toArray 0) :: news) → (∀ p ∈ news, p.1 < D) → Q (.ref D) { s with heap := h' }) (hsz : vs.length ≤ sizeLine) : wpAny (model prog w) A (newList vs) Q E s :=
  newList_N F N (fun h' F' N' => h _ h' F' N' fun p hp => Heap.lt_size (N p hp).1) hsz
theorem app_list {x : Value} {Q : Value → Shared → Prop} (F : Fr h₀ L s.heap m) (N : News h₀ L s.heap ((D, listOf vs.toArray n) :: rest)) (hne : ∀ p ∈ rest, p.1 ≠ D) (h64 : vs.length ≤ 100)
    (h : ∀ h', Fr h₀ L h' m → News h₀ L h' ((D, listOf (vs ++ [x]).toArray (n + 1)) :: rest) → Q .none { s with heap := h' }) :
    wpAny (model prog w) A (call (.builtin "list.append") [.ref D, x]) Q E s := by
  refine append_K F N (Upd.head hne) (fun h' F' N' => h h' F' ?_) ?_
  · rw [List.push_toArray] at N'; exact N'
  · rw [List.size_toArray, sizeLine_eq]; omega
end
end Mine
end PartB6
section PartW1
open PySem PySem.W PyProof.Rows
set_option maxRecDepth 100000
set_option Elab.async false
namespace Mine
def langs : List (Option Str) := [none, some (Str.ofString "de"), some (Str.ofString ""), some (Str.ofString "ja")]
def encs : List (Option Str) := [none, some (Str.ofString "UTF-8"), some (Str.ofString "EUC")]
def langOf (x : Int) : Option Str := langs.getD ((x.fdiv 10).fmod 4).toNat none
def encOf (x : Int) : Option Str := encs.getD ((x.fdiv 40).fmod 3).toNat none
def kindW (x : Int) : Int := (x.fdiv 120).fmod 4
def badPairs : List Dat := [.tuple [.str (Str.ofString "de")], .list [.str (Str.ofString "de"), .str (Str.ofString "UTF-8"), .str (Str.ofString "x")], .tuple [.int 5, .str (Str.ofString "UTF-8")], .int 7]
def pairOf (x : Int) : Dat :=
  if kindW x = 3 then badPairs.getD ((x.fdiv 480).fmod 4).toNat .none else if kindW x = 1 then .list [optD (langOf x), optD (encOf x)] else .tuple [optD (langOf x), optD (encOf x)]
def wishOf (x : Int) : Dat := .tuple [.int (x.fmod 10), pairOf x, .bool (kindW x != 3)]
theorem fm_bounds (a : Int) {k : Int} (hk : 0 < k) : 0 ≤ a.fmod k ∧ a.fmod k < k := by
  rw [Int.fmod_eq_emod_of_nonneg _ (by omega)]
  exact ⟨Int.emod_nonneg _ (by omega), Int.emod_lt_of_pos _ hk⟩
theorem optD_getD (l : List (Option Str)) (i : Nat) : (l.map optD).getD i .none = optD (l.getD i none) := by
  rw [List.getD_eq_getElem?_getD, List.getD_eq_getElem?_getD, List.getElem?_map]
  cases l[i]? <;> rfl
theorem bad_mem (x : Int) : BadD (badPairs.getD ((x.fdiv 480).fmod 4).toNat .none) := by
  obtain ⟨h0, h1⟩ := fm_bounds (x.fdiv 480) (k := 4) (by decide)
  have : ((x.fdiv 480).fmod 4).toNat < 4 := by omega
  generalize ((x.fdiv 480).fmod 4).toNat = i at this
  unfold BadD badPairs
  match i, this with
  | 0, _ => exact .inl rfl
  | 1, _ => exact .inr (.inl rfl)
  | 2, _ => exact .inr (.inr (.inl rfl))
  | 3, _ => exact .inr (.inr (.inr rfl))
theorem short_mem {l : List (Option Str)} {i : Nat} (h : ∀ o ∈ l, ShortS o) : ShortS (l.getD i none) := by
  by_cases hi : i < l.length
  · exact h _ (getD_mem hi)
  · rw [List.getD_eq_getElem?_getD, List.getElem?_eq_none (by omega)]
    intro x hx; cases hx
theorem short_str (x : String) (h : x.length ≤ 100) : ShortS (some (Str.ofString x)) := by
  intro y hy
  cases hy
  rw [PySem.ofString_length]; exact h
theorem short_none : ShortS none := fun x hx => by cases hx
theorem short_lang (x : Int) : ShortS (langOf x) := short_mem (by
  intro o ho
  simp only [langs, List.mem_cons, List.not_mem_nil, or_false] at ho
  rcases ho with rfl | rfl | rfl | rfl
  · exact short_none
  · exact short_str _ (by decide)
  · exact short_str _ (by decide)
  · exact short_str _ (by decide))
theorem short_enc (x : Int) : ShortS (encOf x) := short_mem (by
  intro o ho
  simp only [encs, List.mem_cons, List.not_mem_nil, or_false] at ho
  rcases ho with rfl | rfl | rfl
  · exact short_none
  · exact short_str _ (by decide)
  · exact short_str _ (by decide))
end Mine
end PartW1
section PartS9
open PySem PySem.W PyProof.Rows
set_option maxRecDepth 100000
set_option Elab.async false
namespace Mine
theorem fill9 (P : Params) : (fun (_ : OpenLaw) => nsIn (Mine.hd.heap_39 P) mainGlobals (Str.ofString "zz")) PySem.Challenge.rw_oy0031_01 = (fun (_ : OpenLaw) => nsIn (Mine.hd.heap_39 P) mainGlobals (Str.ofString "zz")) PySem.Challenge.rw_oy0031_01 := by
  k_fill
  rfl

set_option maxHeartbeats 4000000 in
theorem wishes_ok {prog : Program} {w : World} {p : Program} {loose : List Str} {mean : ExcName → Option Value} {mg mb : Str → Option Value}
   {dp un : Nat} {gd : Option (List Code)} {cn : Str} {cs : Scope} {a : Addr} {ccd : Value} {cl : List (Str × Addr)} {outer : List Env} {A₀ : Around} {base h₀ : Heap} {L : Addr} {m : Str → Option Value} {s : Shared} {Q E : Value → Shared → Prop}
   (B : Below A₀ base outer h₀) (F : Fr h₀ L s.heap m) (X : (Mine.hd.heap_39 w.params).In h₀) (T : Top p loose mean mg mb h₀) (hk : cs.kind = .function) (hd : dp + 5 < recursionLimit) (hu : un + 96 < cLine)
   {news : List (Addr × Obj)} (N : News h₀ L s.heap news) {sl : Addr} {svs : List Value} {ns : List Int} (hs : h₀.IsList sl svs.toArray) (hI : IntsAre svs ns) (hlen : ns.length ≤ 63)
   (ret : ∀ h' tk' r new, Fr h₀ L h' m → News h₀ L h' (new ++ news) → DatIn new r (.list ((ns.take 8 ++ [67, 369, 84, 14]).map wishOf)) → Q r { s with heap := h', toks := tk' }) :
   wpAny (model prog w) (ktrTop dp un gd cn cs L a ccd cl outer) (call (.ref 63) [.ref sl]) Q E s := by
  refine wpAny_call ?_
  k_dflt ktr_enter
  generalize s.toks + List.length _ = tk0
  rename_i g L1 h1 FG F1 N1 B1 X1 T1
  replace F1 := fr_binds F1 (l := [((Str.ofString "script"), .ref sl)]) rfl
  have hs1 : g.IsList sl svs.toArray := hs.at fun o e => FG.keep sl o e
  repeat ((first | (with_reducible show wpAny _ _ _ _ _ _) | (with_reducible show ite _ _ _)); (fail_if_success (with_reducible show wpAny _ _ (exec (PySem.Stmt.While _ _ _ _) _) _ _ _)); (fail_if_success (with_reducible show wpAny _ _ (exec (PySem.Stmt.For _ _ _ _ _) _) _ _ _)); (fail_if_success (with_reducible show wpAny _ _ (pyIter _) _ _ _)); walk1; (try dsimp only))
  rename Fr _ _ _ _ => F0
  (with_unfolding_all refine' For_invVF F0 ?k1 ?k2 ?_; (case k1 => exact rfl); (case k2 => exact rfl))
  repeat ((first | (with_reducible show wpAny _ _ _ _ _ _) | (with_reducible show ite _ _ _)); (fail_if_success (with_reducible show wpAny _ _ (exec (PySem.Stmt.While _ _ _ _) _) _ _ _)); (fail_if_success (with_reducible show wpAny _ _ (pyIter _) _ _ _)); walk1; (try dsimp only))
  rename Fr _ _ _ _ => F2
  rename News _ _ _ _ => N2
  have hlv : svs.length = ns.length := hI.length
  rename Heap => h2
  k_dflt (refine' kmk_slice_ints (s := { s with heap := h2, toks := _ }) (vs := svs) (ns := ns) (ms := ns.take 8) (c := min 8 ns.length) ?kF ?kN ?kl ?kp ?kq ?ki ?km ?kc ?_ ?ks ?kt ?kz; (case kF => exact F2); (case kN => exact N2))
  case kl => exact hs1.at fun o e => F2.keep sl o e
  case kp => kmk_part
  case kq => kmk_part
  case ki => exact hI
  case km => exact kmk_upto hI (by decide)
  case kc => simp
  case ks => with_unfolding_all rfl
  case kt => kmk_pure
  case kz => rw [List.size_toArray, sizeLine_eq]; omega
  intro D ws h3 F3 N3 l3 hw hc hle
  repeat ((first | (with_reducible show wpAny _ _ _ _ _ _) | (with_reducible show ite _ _ _)); (fail_if_success (with_reducible show wpAny _ _ (exec (PySem.Stmt.While _ _ _ _) _) _ _ _)); (fail_if_success (with_reducible show wpAny _ _ (pyIter _) _ _ _)); walk1; (try dsimp only))
  rename IntsAre _ (_ ++ _) => hw'
  rename Fr _ _ _ _ => F4
  rename News _ _ _ _ => N4
  rename_i lw _ l1 lc _ l4 D' ws' h4 l5
  have hn2 : lw ≠ D' := fun q => by have z := l5.2.2.1; rw [q] at z; exact Nat.lt_irrefl _ z
  have hn3 : ∀ p ∈ news, p.1 ≠ lw := fun p hp => Nat.ne_of_lt (l1 p hp)
  refine for_list (σ := List Value × Nat × List (Addr × Obj)) (fun c => (lw, listOf c.1.toArray c.2.1) :: (D', listOf ws'.toArray 0) :: (c.2.2 ++ news)) (fun _ => [((Str.ofString "wishes"), .ref lw)])
    (fun i c => c.1.length = i ∧ DatAll c.2.2 c.1 (((ns.take 8 ++ [67, 369, 84, 14]).take i).map wishOf) ∧ (∀ p ∈ c.2.2, p.1 ≠ lw)) ([], 0, []) rfl (fun c => .tail _ (.head _)) F4 ?_ (by kst_all) ⟨rfl, .nil, (fun p hp => nomatch hp)⟩ ?_ ?_
  · exact news_sub N4 fun p hp => by simp only [List.mem_cons, List.nil_append] at hp ⊢; grind
  · rintro i v ⟨wvs, wn, fz⟩ u h tk own hv hoff ⟨hlw, hD, hn1⟩ F5 N5
    dsimp only at hoff hlw hD hn1 F5 N5
    obtain ⟨x, tx, hx, rfl⟩ := ints_at hw' hv
    clear N4 F4
    have hi : i < 12 := by
      have z := (List.getElem?_eq_some_iff.mp hx).1
      simp at z; omega
    have hown : ∀ p ∈ own, p ∈ (lw, listOf wvs.toArray wn) :: (D', listOf ws'.toArray 0) :: (fz ++ news) ++ own := fun p hp => List.mem_append.mpr (.inr hp)
    have hrest : ∀ p ∈ (D', listOf ws'.toArray 0) :: (fz ++ news) ++ own, p.1 ≠ lw := by
      intro q hq
      rcases List.mem_append.mp hq with hq | hq
      · rcases List.mem_cons.mp hq with rfl | hq
        · exact fun z => hn2 z.symm
        · rcases List.mem_append.mp hq with hq | hq
          · exact hn1 q hq
          · exact hn3 q hq
      · exact hoff q hq lw (.head _)
    repeat ((first | (with_reducible show wpAny _ _ _ _ _ _) | (with_reducible show ite _ _ _)); (fail_if_success (with_reducible show wpAny _ _ (exec (PySem.Stmt.While _ _ _ _) _) _ _ _)); (fail_if_success (with_reducible show wpAny _ _ (exec (PySem.Stmt.For _ _ _ _ _) _) _ _ _)); (fail_if_success (with_reducible show wpAny _ _ (pyIter _) _ _ _)); (fail_if_success (with_reducible show wpAny _ _ (subscriptTail _ _ _ _) _ _ _)); (fail_if_success (with_reducible show wpAny _ _ (call (Value.builtin "list.append") _) _ _ _)); (fail_if_success (with_reducible show wpAny _ _ (getMethod _ _ _) _ _ _)); (fail_if_success (with_reducible show wpAny _ _ (newList _) _ _ _)); (fail_if_success (with_reducible show wpAny _ _ (newTuple _) _ _ _)); walk1; (try dsimp only))
    refine lst_new F5 N5 ?_ (by rw [sizeLine_eq]; simp)
    intro la ha Fa Na lta
    repeat ((first | (with_reducible show wpAny _ _ _ _ _ _) | (with_reducible show ite _ _ _)); (fail_if_success (with_reducible show wpAny _ _ (exec (PySem.Stmt.While _ _ _ _) _) _ _ _)); (fail_if_success (with_reducible show wpAny _ _ (exec (PySem.Stmt.For _ _ _ _ _) _) _ _ _)); (fail_if_success (with_reducible show wpAny _ _ (pyIter _) _ _ _)); (fail_if_success (with_reducible show wpAny _ _ (subscriptTail _ _ _ _) _ _ _)); (fail_if_success (with_reducible show wpAny _ _ (call (Value.builtin "list.append") _) _ _ _)); (fail_if_success (with_reducible show wpAny _ _ (getMethod _ _ _) _ _ _)); (fail_if_success (with_reducible show wpAny _ _ (newList _) _ _ _)); (fail_if_success (with_reducible show wpAny _ _ (newTuple _) _ _ _)); walk1; (try dsimp only))
    have hL := DatAll.getD' (news := []) (vs := [Value.none, Value.str (Str.ofString "de") tk, Value.str (Str.ofString "") (tk + 1), Value.str (Str.ofString "ja") (tk + 1 + 1)]) (ds := langs.map optD) (.cons .none (.cons (.str _ _) (.cons (.str _ _) (.cons (.str _ _) .nil)))) ((x.fdiv 10).fmod 4).toNat
    rw [optD_getD] at hL
    refine menu_item Na (.head _) (fm_bounds _ (by decide)).1 (fm_bounds _ (by decide)).2 (by simp) ?_
    generalize List.getD _ _ _ = v1 at hL ⊢
    replace Na := news_sub Na fun p hp => .tail _ hp
    clear lta N5 F5
    repeat ((first | (with_reducible show wpAny _ _ _ _ _ _) | (with_reducible show ite _ _ _)); (fail_if_success (with_reducible show wpAny _ _ (exec (PySem.Stmt.While _ _ _ _) _) _ _ _)); (fail_if_success (with_reducible show wpAny _ _ (exec (PySem.Stmt.For _ _ _ _ _) _) _ _ _)); (fail_if_success (with_reducible show wpAny _ _ (pyIter _) _ _ _)); (fail_if_success (with_reducible show wpAny _ _ (subscriptTail _ _ _ _) _ _ _)); (fail_if_success (with_reducible show wpAny _ _ (call (Value.builtin "list.append") _) _ _ _)); (fail_if_success (with_reducible show wpAny _ _ (getMethod _ _ _) _ _ _)); (fail_if_success (with_reducible show wpAny _ _ (newList _) _ _ _)); (fail_if_success (with_reducible show wpAny _ _ (newTuple _) _ _ _)); walk1; (try dsimp only))
    rename Fr _ _ _ _ => Fb
    rename News _ _ _ _ => Nb
    refine lst_new Fb Nb ?_ (by rw [sizeLine_eq]; simp)
    intro lb hb Fb' Nb' ltb
    repeat ((first | (with_reducible show wpAny _ _ _ _ _ _) | (with_reducible show ite _ _ _)); (fail_if_success (with_reducible show wpAny _ _ (exec (PySem.Stmt.While _ _ _ _) _) _ _ _)); (fail_if_success (with_reducible show wpAny _ _ (exec (PySem.Stmt.For _ _ _ _ _) _) _ _ _)); (fail_if_success (with_reducible show wpAny _ _ (pyIter _) _ _ _)); (fail_if_success (with_reducible show wpAny _ _ (subscriptTail _ _ _ _) _ _ _)); (fail_if_success (with_reducible show wpAny _ _ (call (Value.builtin "list.append") _) _ _ _)); (fail_if_success (with_reducible show wpAny _ _ (getMethod _ _ _) _ _ _)); (fail_if_success (with_reducible show wpAny _ _ (newList _) _ _ _)); (fail_if_success (with_reducible show wpAny _ _ (newTuple _) _ _ _)); walk1; (try dsimp only))
    have hEn := DatAll.getD' (news := []) (vs := [Value.none, Value.str (Str.ofString "UTF-8") tk, Value.str (Str.ofString "EUC") (tk + 1)]) (ds := encs.map optD) (.cons .none (.cons (.str _ _) (.cons (.str _ _) .nil))) ((x.fdiv 40).fmod 3).toNat
    rw [optD_getD] at hEn
    refine menu_item Nb' (.head _) (fm_bounds _ (by decide)).1 (fm_bounds _ (by decide)).2 (by simp) ?_
    generalize List.getD _ _ _ = v2 at hEn ⊢
    replace Nb' := news_sub Nb' fun p hp => .tail _ hp
    clear ltb Nb Fb
    repeat ((first | (with_reducible show wpAny _ _ _ _ _ _) | (with_reducible show ite _ _ _)); (fail_if_success (with_reducible show wpAny _ _ (exec (PySem.Stmt.While _ _ _ _) _) _ _ _)); (fail_if_success (with_reducible show wpAny _ _ (exec (PySem.Stmt.For _ _ _ _ _) _) _ _ _)); (fail_if_success (with_reducible show wpAny _ _ (pyIter _) _ _ _)); (fail_if_success (with_reducible show wpAny _ _ (subscriptTail _ _ _ _) _ _ _)); (fail_if_success (with_reducible show wpAny _ _ (call (Value.builtin "list.append") _) _ _ _)); (fail_if_success (with_reducible show wpAny _ _ (getMethod _ _ _) _ _ _)); (fail_if_success (with_reducible show wpAny _ _ (newList _) _ _ _)); (fail_if_success (with_reducible show wpAny _ _ (newTuple _) _ _ _)); walk1; (try dsimp only))
    ·
      rename (_ : Int) = 3 => hk3
      rename Fr _ _ _ _ => Fc
      rename News _ _ _ _ => Nc
      refine tup_new Fc Nc ?_ (by rw [sizeLine_eq]; simp)
      intro D1 h1' F1' N1' lt0
      repeat ((first | (with_reducible show wpAny _ _ _ _ _ _) | (with_reducible show ite _ _ _)); (fail_if_success (with_reducible show wpAny _ _ (exec (PySem.Stmt.While _ _ _ _) _) _ _ _)); (fail_if_success (with_reducible show wpAny _ _ (exec (PySem.Stmt.For _ _ _ _ _) _) _ _ _)); (fail_if_success (with_reducible show wpAny _ _ (pyIter _) _ _ _)); (fail_if_success (with_reducible show wpAny _ _ (subscriptTail _ _ _ _) _ _ _)); (fail_if_success (with_reducible show wpAny _ _ (call (Value.builtin "list.append") _) _ _ _)); (fail_if_success (with_reducible show wpAny _ _ (getMethod _ _ _) _ _ _)); (fail_if_success (with_reducible show wpAny _ _ (newList _) _ _ _)); (fail_if_success (with_reducible show wpAny _ _ (newTuple _) _ _ _)); walk1; (try dsimp only))
      refine lst_new F1' N1' ?_ (by rw [sizeLine_eq]; simp)
      intro l1 h2' F2' N2' lt1
      repeat ((first | (with_reducible show wpAny _ _ _ _ _ _) | (with_reducible show ite _ _ _)); (fail_if_success (with_reducible show wpAny _ _ (exec (PySem.Stmt.While _ _ _ _) _) _ _ _)); (fail_if_success (with_reducible show wpAny _ _ (exec (PySem.Stmt.For _ _ _ _ _) _) _ _ _)); (fail_if_success (with_reducible show wpAny _ _ (pyIter _) _ _ _)); (fail_if_success (with_reducible show wpAny _ _ (subscriptTail _ _ _ _) _ _ _)); (fail_if_success (with_reducible show wpAny _ _ (call (Value.builtin "list.append") _) _ _ _)); (fail_if_success (with_reducible show wpAny _ _ (getMethod _ _ _) _ _ _)); (fail_if_success (with_reducible show wpAny _ _ (newList _) _ _ _)); (fail_if_success (with_reducible show wpAny _ _ (newTuple _) _ _ _)); walk1; (try dsimp only))
      refine tup_new F2' N2' ?_ (by rw [sizeLine_eq]; simp)
      intro D2 h3' F3' N3' lt2
      repeat ((first | (with_reducible show wpAny _ _ _ _ _ _) | (with_reducible show ite _ _ _)); (fail_if_success (with_reducible show wpAny _ _ (exec (PySem.Stmt.While _ _ _ _) _) _ _ _)); (fail_if_success (with_reducible show wpAny _ _ (exec (PySem.Stmt.For _ _ _ _ _) _) _ _ _)); (fail_if_success (with_reducible show wpAny _ _ (pyIter _) _ _ _)); (fail_if_success (with_reducible show wpAny _ _ (subscriptTail _ _ _ _) _ _ _)); (fail_if_success (with_reducible show wpAny _ _ (call (Value.builtin "list.append") _) _ _ _)); (fail_if_success (with_reducible show wpAny _ _ (getMethod _ _ _) _ _ _)); (fail_if_success (with_reducible show wpAny _ _ (newList _) _ _ _)); (fail_if_success (with_reducible show wpAny _ _ (newTuple _) _ _ _)); walk1; (try dsimp only))
      refine lst_new F3' N3' ?_ (by rw [sizeLine_eq]; simp)
      intro lm h4' F4' N4' ltm
      repeat ((first | (with_reducible show wpAny _ _ _ _ _ _) | (with_reducible show ite _ _ _)); (fail_if_success (with_reducible show wpAny _ _ (exec (PySem.Stmt.While _ _ _ _) _) _ _ _)); (fail_if_success (with_reducible show wpAny _ _ (exec (PySem.Stmt.For _ _ _ _ _) _) _ _ _)); (fail_if_success (with_reducible show wpAny _ _ (pyIter _) _ _ _)); (fail_if_success (with_reducible show wpAny _ _ (subscriptTail _ _ _ _) _ _ _)); (fail_if_success (with_reducible show wpAny _ _ (call (Value.builtin "list.append") _) _ _ _)); (fail_if_success (with_reducible show wpAny _ _ (getMethod _ _ _) _ _ _)); (fail_if_success (with_reducible show wpAny _ _ (newList _) _ _ _)); (fail_if_success (with_reducible show wpAny _ _ (newTuple _) _ _ _)); walk1; (try dsimp only))
      refine menu_item N4' (.head _) (fm_bounds _ (by decide)).1 (fm_bounds _ (by decide)).2 (by simp) ?_
      obtain ⟨addB, haddB⟩ : ∃ addB, addB = [(D2, ({ cls := .type "tuple", data := .seq [Value.int 5 (tk + 1 + 1 + 1 + 1), Value.str (Str.ofString "UTF-8") (tk + 1 + 1 + 1 + 1 + 1)].toArray } : Obj)), (l1, listOf [Value.str (Str.ofString "de") (tk + 1), Value.str (Str.ofString "UTF-8") (tk + 1 + 1), Value.str (Str.ofString "x") (tk + 1 + 1 + 1)].toArray 0), (D1, ({ cls := .type "tuple", data := .seq [Value.str (Str.ofString "de") tk].toArray } : Obj))] := ⟨_, rfl⟩
      have hB : DatIn addB (List.getD [.ref D1, .ref l1, .ref D2, .int 7 (tk + 1 + 1 + 1 + 1 + 1 + 1)] ((x.fdiv 480).fmod 4).toNat .none) (badPairs.getD ((x.fdiv 480).fmod 4).toNat .none) := by
        rw [haddB]
        exact DatAll.getD' (.cons (.tuple (.tail _ (.tail _ (.head _))) (.cons (.str _ _) .nil)) (.cons (.list (.tail _ (.head _)) (.cons (.str _ _) (.cons (.str _ _) (.cons (.str _ _) .nil)))) (.cons (.tuple (.head _) (.cons (.int _ _) (.cons (.str _ _) .nil))) (.cons (.int _ _) .nil)))) _
      generalize List.getD _ _ _ = v3 at hB ⊢
      replace N4' := news_sub N4' fun p hp => .tail _ hp
      clear ltm N1' N2' N3' F1' F2' F3'
      repeat ((first | (with_reducible show wpAny _ _ _ _ _ _) | (with_reducible show ite _ _ _)); (fail_if_success (with_reducible show wpAny _ _ (exec (PySem.Stmt.While _ _ _ _) _) _ _ _)); (fail_if_success (with_reducible show wpAny _ _ (exec (PySem.Stmt.For _ _ _ _ _) _) _ _ _)); (fail_if_success (with_reducible show wpAny _ _ (pyIter _) _ _ _)); (fail_if_success (with_reducible show wpAny _ _ (subscriptTail _ _ _ _) _ _ _)); (fail_if_success (with_reducible show wpAny _ _ (call (Value.builtin "list.append") _) _ _ _)); (fail_if_success (with_reducible show wpAny _ _ (getMethod _ _ _) _ _ _)); (fail_if_success (with_reducible show wpAny _ _ (newList _) _ _ _)); (fail_if_success (with_reducible show wpAny _ _ (newTuple _) _ _ _)); walk1; (try dsimp only))
      rename Fr _ _ _ _ => Fp
      rename News _ _ _ _ => Np
      refine listMethod_K (its := wvs.toArray) (n := wn) Np (.tail _ (.tail _ (.tail _ (.head _)))) PySem.F.slot_list_append PySem.F.type_list_append ?_
      repeat ((first | (with_reducible show wpAny _ _ _ _ _ _) | (with_reducible show ite _ _ _)); (fail_if_success (with_reducible show wpAny _ _ (exec (PySem.Stmt.While _ _ _ _) _) _ _ _)); (fail_if_success (with_reducible show wpAny _ _ (exec (PySem.Stmt.For _ _ _ _ _) _) _ _ _)); (fail_if_success (with_reducible show wpAny _ _ (pyIter _) _ _ _)); (fail_if_success (with_reducible show wpAny _ _ (subscriptTail _ _ _ _) _ _ _)); (fail_if_success (with_reducible show wpAny _ _ (call (Value.builtin "list.append") _) _ _ _)); (fail_if_success (with_reducible show wpAny _ _ (getMethod _ _ _) _ _ _)); (fail_if_success (with_reducible show wpAny _ _ (newList _) _ _ _)); (fail_if_success (with_reducible show wpAny _ _ (newTuple _) _ _ _)); walk1; (try dsimp only))
      refine tup_new Fp Np ?_ (by rw [sizeLine_eq]; simp)
      intro T hT FT NT ltT
      repeat ((first | (with_reducible show wpAny _ _ _ _ _ _) | (with_reducible show ite _ _ _)); (fail_if_success (with_reducible show wpAny _ _ (exec (PySem.Stmt.While _ _ _ _) _) _ _ _)); (fail_if_success (with_reducible show wpAny _ _ (exec (PySem.Stmt.For _ _ _ _ _) _) _ _ _)); (fail_if_success (with_reducible show wpAny _ _ (pyIter _) _ _ _)); (fail_if_success (with_reducible show wpAny _ _ (subscriptTail _ _ _ _) _ _ _)); (fail_if_success (with_reducible show wpAny _ _ (call (Value.builtin "list.append") _) _ _ _)); (fail_if_success (with_reducible show wpAny _ _ (getMethod _ _ _) _ _ _)); (fail_if_success (with_reducible show wpAny _ _ (newList _) _ _ _)); (fail_if_success (with_reducible show wpAny _ _ (newTuple _) _ _ _)); walk1; (try dsimp only))
      have hnew : (∀ q ∈ addB, ∀ z ∈ (lw, listOf wvs.toArray wn) :: (D', listOf ws'.toArray 0) :: (fz ++ news) ++ own, z.1 < q.1) ∧ True := ⟨fun q hq z hz => by
        rw [haddB] at hq
        simp only [List.mem_cons, List.not_mem_nil, or_false] at hq
        rcases hq with rfl | rfl | rfl
        · exact lt2 z (.tail _ (.tail _ hz))
        · exact lt1 z (.tail _ hz)
        · exact lt0 z hz, trivial⟩
      have hdat : DatIn addB v3 (pairOf x) := by
        unfold pairOf kindW
        rw [if_pos hk3]
        exact hB
      have hfull : ∃ oT, oT = ({ cls := .type "tuple", data := .seq _ } : Obj) ∧ News g L1 hT ((T, oT) :: (addB ++ ((lw, listOf wvs.toArray wn) :: ((D', listOf ws'.toArray 0) :: (fz ++ news) ++ own)))) := ⟨_, rfl, by first | exact NT | (rw [haddB]; exact NT)⟩
      obtain ⟨oT, hoT, NT'⟩ := hfull
      clear NT
      refine append_K FT NT' (.tail (Nat.ne_of_gt (ltT (lw, listOf wvs.toArray wn) (.tail _ (.tail _ (.tail _ (.head _)))))) (upd_app hrest addB fun q hq => Nat.ne_of_gt (hnew.1 q hq (lw, listOf wvs.toArray wn) (.head _)))) ?_ (by rw [List.size_toArray, sizeLine_eq]; omega)
      intro h9 F9 N9
      repeat ((first | (with_reducible show wpAny _ _ _ _ _ _) | (with_reducible show ite _ _ _)); (fail_if_success (with_reducible show wpAny _ _ (exec (PySem.Stmt.While _ _ _ _) _) _ _ _)); (fail_if_success (with_reducible show wpAny _ _ (exec (PySem.Stmt.For _ _ _ _ _) _) _ _ _)); (fail_if_success (with_reducible show wpAny _ _ (pyIter _) _ _ _)); (fail_if_success (with_reducible show wpAny _ _ (subscriptTail _ _ _ _) _ _ _)); (fail_if_success (with_reducible show wpAny _ _ (call (Value.builtin "list.append") _) _ _ _)); (fail_if_success (with_reducible show wpAny _ _ (getMethod _ _ _) _ _ _)); (fail_if_success (with_reducible show wpAny _ _ (newList _) _ _ _)); (fail_if_success (with_reducible show wpAny _ _ (newTuple _) _ _ _)); walk1; (try dsimp only))
      rw [List.push_toArray] at N9
      refine f_end (wvs ++ [.ref T], wn + 1, ((T, oT) :: addB) ++ fz) F9 (news_sub N9 reo) ?_ (by kst_all) ⟨?_, ?_, ?_⟩
      · refine ownoff_new hoff fun q hq z hz => ?_
        rcases List.mem_cons.mp hq with rfl | hq
        · exact Nat.ne_of_lt (ltT z (.tail _ (.tail _ (.tail _ (hown z hz)))))
        · exact Nat.ne_of_lt (hnew.1 q hq z (hown z hz))
      · simp [hlw]
      · subst hoT
        exact datall_snoc hD hx (.tuple (.head _) (.cons (.int _ _) (.cons (DatIn.mono (fun q hq => List.mem_append.mpr (.inl (.tail _ hq))) hdat) (.cons (.bool _) .nil))))
      · intro q hq
        rcases List.mem_append.mp hq with hq | hq
        · rcases List.mem_cons.mp hq with rfl | hq
          · exact Nat.ne_of_gt (ltT (lw, listOf wvs.toArray wn) (.tail _ (.tail _ (.tail _ (.head _)))))
          · exact Nat.ne_of_gt (hnew.1 q hq (lw, listOf wvs.toArray wn) (.head _))
        · exact hn1 q hq
    · repeat ((first | (with_reducible show wpAny _ _ _ _ _ _) | (with_reducible show ite _ _ _)); (fail_if_success (with_reducible show wpAny _ _ (exec (PySem.Stmt.While _ _ _ _) _) _ _ _)); (fail_if_success (with_reducible show wpAny _ _ (exec (PySem.Stmt.For _ _ _ _ _) _) _ _ _)); (fail_if_success (with_reducible show wpAny _ _ (pyIter _) _ _ _)); (fail_if_success (with_reducible show wpAny _ _ (subscriptTail _ _ _ _) _ _ _)); (fail_if_success (with_reducible show wpAny _ _ (call (Value.builtin "list.append") _) _ _ _)); (fail_if_success (with_reducible show wpAny _ _ (getMethod _ _ _) _ _ _)); (fail_if_success (with_reducible show wpAny _ _ (newList _) _ _ _)); (fail_if_success (with_reducible show wpAny _ _ (newTuple _) _ _ _)); walk1; (try dsimp only))
      · rename (_ : Int) ≠ 3 => hk3
        rename (_ : Int) = 1 => hk1
        rename Fr _ _ _ _ => Fc
        rename News _ _ _ _ => Nc
        refine lst_new Fc Nc ?_ (by rw [sizeLine_eq]; simp)
        intro lp hp Fp0 Np0 ltp
        repeat ((first | (with_reducible show wpAny _ _ _ _ _ _) | (with_reducible show ite _ _ _)); (fail_if_success (with_reducible show wpAny _ _ (exec (PySem.Stmt.While _ _ _ _) _) _ _ _)); (fail_if_success (with_reducible show wpAny _ _ (exec (PySem.Stmt.For _ _ _ _ _) _) _ _ _)); (fail_if_success (with_reducible show wpAny _ _ (pyIter _) _ _ _)); (fail_if_success (with_reducible show wpAny _ _ (subscriptTail _ _ _ _) _ _ _)); (fail_if_success (with_reducible show wpAny _ _ (call (Value.builtin "list.append") _) _ _ _)); (fail_if_success (with_reducible show wpAny _ _ (getMethod _ _ _) _ _ _)); (fail_if_success (with_reducible show wpAny _ _ (newList _) _ _ _)); (fail_if_success (with_reducible show wpAny _ _ (newTuple _) _ _ _)); walk1; (try dsimp only))
        rename Fr _ _ _ _ => Fp
        rename News _ _ _ _ => Np
        refine listMethod_K (its := wvs.toArray) (n := wn) Np (.tail _ (.head _)) PySem.F.slot_list_append PySem.F.type_list_append ?_
        repeat ((first | (with_reducible show wpAny _ _ _ _ _ _) | (with_reducible show ite _ _ _)); (fail_if_success (with_reducible show wpAny _ _ (exec (PySem.Stmt.While _ _ _ _) _) _ _ _)); (fail_if_success (with_reducible show wpAny _ _ (exec (PySem.Stmt.For _ _ _ _ _) _) _ _ _)); (fail_if_success (with_reducible show wpAny _ _ (pyIter _) _ _ _)); (fail_if_success (with_reducible show wpAny _ _ (subscriptTail _ _ _ _) _ _ _)); (fail_if_success (with_reducible show wpAny _ _ (call (Value.builtin "list.append") _) _ _ _)); (fail_if_success (with_reducible show wpAny _ _ (getMethod _ _ _) _ _ _)); (fail_if_success (with_reducible show wpAny _ _ (newList _) _ _ _)); (fail_if_success (with_reducible show wpAny _ _ (newTuple _) _ _ _)); walk1; (try dsimp only))
        refine tup_new Fp Np ?_ (by rw [sizeLine_eq]; simp)
        intro T hT FT NT ltT
        repeat ((first | (with_reducible show wpAny _ _ _ _ _ _) | (with_reducible show ite _ _ _)); (fail_if_success (with_reducible show wpAny _ _ (exec (PySem.Stmt.While _ _ _ _) _) _ _ _)); (fail_if_success (with_reducible show wpAny _ _ (exec (PySem.Stmt.For _ _ _ _ _) _) _ _ _)); (fail_if_success (with_reducible show wpAny _ _ (pyIter _) _ _ _)); (fail_if_success (with_reducible show wpAny _ _ (subscriptTail _ _ _ _) _ _ _)); (fail_if_success (with_reducible show wpAny _ _ (call (Value.builtin "list.append") _) _ _ _)); (fail_if_success (with_reducible show wpAny _ _ (getMethod _ _ _) _ _ _)); (fail_if_success (with_reducible show wpAny _ _ (newList _) _ _ _)); (fail_if_success (with_reducible show wpAny _ _ (newTuple _) _ _ _)); walk1; (try dsimp only))
        have hnew : (∀ q ∈ [(lp, listOf [v1, v2].toArray 0)], ∀ z ∈ (lw, listOf wvs.toArray wn) :: (D', listOf ws'.toArray 0) :: (fz ++ news) ++ own, z.1 < q.1) ∧ True := ⟨fun q hq z hz => by rw [List.mem_singleton.mp hq]; exact ltp z hz, trivial⟩
        have hdat : DatIn [(lp, listOf [v1, v2].toArray 0)] (.ref lp) (pairOf x) := by
          unfold pairOf kindW
          rw [if_neg hk3, if_pos hk1]
          exact .list (.head _) (.cons (DatIn.up hL) (.cons (DatIn.up hEn) .nil))
        have hfull : ∃ oT, oT = ({ cls := .type "tuple", data := .seq _ } : Obj) ∧ News g L1 hT ((T, oT) :: ([(lp, listOf [v1, v2].toArray 0)] ++ ((lw, listOf wvs.toArray wn) :: ((D', listOf ws'.toArray 0) :: (fz ++ news) ++ own)))) := ⟨_, rfl, by first | exact NT | (rw [haddB]; exact NT)⟩
        obtain ⟨oT, hoT, NT'⟩ := hfull
        clear NT
        refine append_K FT NT' (.tail (Nat.ne_of_gt (ltT (lw, listOf wvs.toArray wn) (.tail _ (.head _)))) (upd_app hrest [(lp, listOf [v1, v2].toArray 0)] fun q hq => Nat.ne_of_gt (hnew.1 q hq (lw, listOf wvs.toArray wn) (.head _)))) ?_ (by rw [List.size_toArray, sizeLine_eq]; omega)
        intro h9 F9 N9
        repeat ((first | (with_reducible show wpAny _ _ _ _ _ _) | (with_reducible show ite _ _ _)); (fail_if_success (with_reducible show wpAny _ _ (exec (PySem.Stmt.While _ _ _ _) _) _ _ _)); (fail_if_success (with_reducible show wpAny _ _ (exec (PySem.Stmt.For _ _ _ _ _) _) _ _ _)); (fail_if_success (with_reducible show wpAny _ _ (pyIter _) _ _ _)); (fail_if_success (with_reducible show wpAny _ _ (subscriptTail _ _ _ _) _ _ _)); (fail_if_success (with_reducible show wpAny _ _ (call (Value.builtin "list.append") _) _ _ _)); (fail_if_success (with_reducible show wpAny _ _ (getMethod _ _ _) _ _ _)); (fail_if_success (with_reducible show wpAny _ _ (newList _) _ _ _)); (fail_if_success (with_reducible show wpAny _ _ (newTuple _) _ _ _)); walk1; (try dsimp only))
        rw [List.push_toArray] at N9
        refine f_end (wvs ++ [.ref T], wn + 1, ((T, oT) :: [(lp, listOf [v1, v2].toArray 0)]) ++ fz) F9 (news_sub N9 reo) ?_ (by kst_all) ⟨?_, ?_, ?_⟩
        · refine ownoff_new hoff fun q hq z hz => ?_
          rcases List.mem_cons.mp hq with rfl | hq
          · exact Nat.ne_of_lt (ltT z (.tail _ (hown z hz)))
          · exact Nat.ne_of_lt (hnew.1 q hq z (hown z hz))
        · simp [hlw]
        · subst hoT
          exact datall_snoc hD hx (.tuple (.head _) (.cons (.int _ _) (.cons (DatIn.mono (fun q hq => List.mem_append.mpr (.inl (.tail _ hq))) hdat) (.cons (.bool _) .nil))))
        · intro q hq
          rcases List.mem_append.mp hq with hq | hq
          · rcases List.mem_cons.mp hq with rfl | hq
            · exact Nat.ne_of_gt (ltT (lw, listOf wvs.toArray wn) (.tail _ (.head _)))
            · exact Nat.ne_of_gt (hnew.1 q hq (lw, listOf wvs.toArray wn) (.head _))
          · exact hn1 q hq
      · repeat ((first | (with_reducible show wpAny _ _ _ _ _ _) | (with_reducible show ite _ _ _)); (fail_if_success (with_reducible show wpAny _ _ (exec (PySem.Stmt.While _ _ _ _) _) _ _ _)); (fail_if_success (with_reducible show wpAny _ _ (exec (PySem.Stmt.For _ _ _ _ _) _) _ _ _)); (fail_if_success (with_reducible show wpAny _ _ (pyIter _) _ _ _)); (fail_if_success (with_reducible show wpAny _ _ (subscriptTail _ _ _ _) _ _ _)); (fail_if_success (with_reducible show wpAny _ _ (call (Value.builtin "list.append") _) _ _ _)); (fail_if_success (with_reducible show wpAny _ _ (getMethod _ _ _) _ _ _)); (fail_if_success (with_reducible show wpAny _ _ (newList _) _ _ _)); (fail_if_success (with_reducible show wpAny _ _ (newTuple _) _ _ _)); walk1; (try dsimp only))
        rename (_ : Int) ≠ 3 => hk3
        rename ¬ (_ : Int) = 1 => hk1
        rename Fr _ _ _ _ => Fc
        rename News _ _ _ _ => Nc
        refine tup_new Fc Nc ?_ (by rw [sizeLine_eq]; simp)
        intro lp hp Fp0 Np0 ltp
        repeat ((first | (with_reducible show wpAny _ _ _ _ _ _) | (with_reducible show ite _ _ _)); (fail_if_success (with_reducible show wpAny _ _ (exec (PySem.Stmt.While _ _ _ _) _) _ _ _)); (fail_if_success (with_reducible show wpAny _ _ (exec (PySem.Stmt.For _ _ _ _ _) _) _ _ _)); (fail_if_success (with_reducible show wpAny _ _ (pyIter _) _ _ _)); (fail_if_success (with_reducible show wpAny _ _ (subscriptTail _ _ _ _) _ _ _)); (fail_if_success (with_reducible show wpAny _ _ (call (Value.builtin "list.append") _) _ _ _)); (fail_if_success (with_reducible show wpAny _ _ (getMethod _ _ _) _ _ _)); (fail_if_success (with_reducible show wpAny _ _ (newList _) _ _ _)); (fail_if_success (with_reducible show wpAny _ _ (newTuple _) _ _ _)); walk1; (try dsimp only))
        rename Fr _ _ _ _ => Fp
        rename News _ _ _ _ => Np
        refine listMethod_K (its := wvs.toArray) (n := wn) Np (.tail _ (.head _)) PySem.F.slot_list_append PySem.F.type_list_append ?_
        repeat ((first | (with_reducible show wpAny _ _ _ _ _ _) | (with_reducible show ite _ _ _)); (fail_if_success (with_reducible show wpAny _ _ (exec (PySem.Stmt.While _ _ _ _) _) _ _ _)); (fail_if_success (with_reducible show wpAny _ _ (exec (PySem.Stmt.For _ _ _ _ _) _) _ _ _)); (fail_if_success (with_reducible show wpAny _ _ (pyIter _) _ _ _)); (fail_if_success (with_reducible show wpAny _ _ (subscriptTail _ _ _ _) _ _ _)); (fail_if_success (with_reducible show wpAny _ _ (call (Value.builtin "list.append") _) _ _ _)); (fail_if_success (with_reducible show wpAny _ _ (getMethod _ _ _) _ _ _)); (fail_if_success (with_reducible show wpAny _ _ (newList _) _ _ _)); (fail_if_success (with_reducible show wpAny _ _ (newTuple _) _ _ _)); walk1; (try dsimp only))
        refine tup_new Fp Np ?_ (by rw [sizeLine_eq]; simp)
        intro T hT FT NT ltT
        repeat ((first | (with_reducible show wpAny _ _ _ _ _ _) | (with_reducible show ite _ _ _)); (fail_if_success (with_reducible show wpAny _ _ (exec (PySem.Stmt.While _ _ _ _) _) _ _ _)); (fail_if_success (with_reducible show wpAny _ _ (exec (PySem.Stmt.For _ _ _ _ _) _) _ _ _)); (fail_if_success (with_reducible show wpAny _ _ (pyIter _) _ _ _)); (fail_if_success (with_reducible show wpAny _ _ (subscriptTail _ _ _ _) _ _ _)); (fail_if_success (with_reducible show wpAny _ _ (call (Value.builtin "list.append") _) _ _ _)); (fail_if_success (with_reducible show wpAny _ _ (getMethod _ _ _) _ _ _)); (fail_if_success (with_reducible show wpAny _ _ (newList _) _ _ _)); (fail_if_success (with_reducible show wpAny _ _ (newTuple _) _ _ _)); walk1; (try dsimp only))
        have hnew : (∀ q ∈ [(lp, ({ cls := .type "tuple", data := .seq [v1, v2].toArray } : Obj))], ∀ z ∈ (lw, listOf wvs.toArray wn) :: (D', listOf ws'.toArray 0) :: (fz ++ news) ++ own, z.1 < q.1) ∧ True := ⟨fun q hq z hz => by rw [List.mem_singleton.mp hq]; exact ltp z hz, trivial⟩
        have hdat : DatIn [(lp, ({ cls := .type "tuple", data := .seq [v1, v2].toArray } : Obj))] (.ref lp) (pairOf x) := by
          unfold pairOf kindW
          rw [if_neg hk3, if_neg hk1]
          exact .tuple (.head _) (.cons (DatIn.up hL) (.cons (DatIn.up hEn) .nil))
        have hfull : ∃ oT, oT = ({ cls := .type "tuple", data := .seq _ } : Obj) ∧ News g L1 hT ((T, oT) :: ([(lp, ({ cls := .type "tuple", data := .seq [v1, v2].toArray } : Obj))] ++ ((lw, listOf wvs.toArray wn) :: ((D', listOf ws'.toArray 0) :: (fz ++ news) ++ own)))) := ⟨_, rfl, by first | exact NT | (rw [haddB]; exact NT)⟩
        obtain ⟨oT, hoT, NT'⟩ := hfull
        clear NT
        refine append_K FT NT' (.tail (Nat.ne_of_gt (ltT (lw, listOf wvs.toArray wn) (.tail _ (.head _)))) (upd_app hrest [(lp, ({ cls := .type "tuple", data := .seq [v1, v2].toArray } : Obj))] fun q hq => Nat.ne_of_gt (hnew.1 q hq (lw, listOf wvs.toArray wn) (.head _)))) ?_ (by rw [List.size_toArray, sizeLine_eq]; omega)
        intro h9 F9 N9
        repeat ((first | (with_reducible show wpAny _ _ _ _ _ _) | (with_reducible show ite _ _ _)); (fail_if_success (with_reducible show wpAny _ _ (exec (PySem.Stmt.While _ _ _ _) _) _ _ _)); (fail_if_success (with_reducible show wpAny _ _ (exec (PySem.Stmt.For _ _ _ _ _) _) _ _ _)); (fail_if_success (with_reducible show wpAny _ _ (pyIter _) _ _ _)); (fail_if_success (with_reducible show wpAny _ _ (subscriptTail _ _ _ _) _ _ _)); (fail_if_success (with_reducible show wpAny _ _ (call (Value.builtin "list.append") _) _ _ _)); (fail_if_success (with_reducible show wpAny _ _ (getMethod _ _ _) _ _ _)); (fail_if_success (with_reducible show wpAny _ _ (newList _) _ _ _)); (fail_if_success (with_reducible show wpAny _ _ (newTuple _) _ _ _)); walk1; (try dsimp only))
        rw [List.push_toArray] at N9
        refine f_end (wvs ++ [.ref T], wn + 1, ((T, oT) :: [(lp, ({ cls := .type "tuple", data := .seq [v1, v2].toArray } : Obj))]) ++ fz) F9 (news_sub N9 reo) ?_ (by kst_all) ⟨?_, ?_, ?_⟩
        · refine ownoff_new hoff fun q hq z hz => ?_
          rcases List.mem_cons.mp hq with rfl | hq
          · exact Nat.ne_of_lt (ltT z (.tail _ (hown z hz)))
          · exact Nat.ne_of_lt (hnew.1 q hq z (hown z hz))
        · simp [hlw]
        · subst hoT
          exact datall_snoc hD hx (.tuple (.head _) (.cons (.int _ _) (.cons (DatIn.mono (fun q hq => List.mem_append.mpr (.inl (.tail _ hq))) hdat) (.cons (.bool _) .nil))))
        · intro q hq
          rcases List.mem_append.mp hq with hq | hq
          · rcases List.mem_cons.mp hq with rfl | hq
            · exact Nat.ne_of_gt (ltT (lw, listOf wvs.toArray wn) (.tail _ (.head _)))
            · exact Nat.ne_of_gt (hnew.1 q hq (lw, listOf wvs.toArray wn) (.head _))
          · exact hn1 q hq
  · rintro ⟨wvs, wn, fz⟩ u h tk ⟨hlw, hD, hn1⟩ F5 N5
    dsimp only at hlw hD hn1 F5 N5
    repeat ((first | (with_reducible show wpAny _ _ _ _ _ _) | (with_reducible show ite _ _ _)); (fail_if_success (with_reducible show wpAny _ _ (exec (PySem.Stmt.While _ _ _ _) _) _ _ _)); (fail_if_success (with_reducible show wpAny _ _ (exec (PySem.Stmt.For _ _ _ _ _) _) _ _ _)); (fail_if_success (with_reducible show wpAny _ _ (pyIter _) _ _ _)); (fail_if_success (with_reducible show wpAny _ _ (subscriptTail _ _ _ _) _ _ _)); (fail_if_success (with_reducible show wpAny _ _ (call (Value.builtin "list.append") _) _ _ _)); (fail_if_success (with_reducible show wpAny _ _ (getMethod _ _ _) _ _ _)); (fail_if_success (with_reducible show wpAny _ _ (newList _) _ _ _)); (fail_if_success (with_reducible show wpAny _ _ (newTuple _) _ _ _)); walk1; (try dsimp only))
    refine leaveK_ F5 N5 fun F6 N6 => ret _ _ _ ((lw, listOf wvs.toArray wn) :: fz) F6 (news_sub N6 fun p hp => ?_) ?_
    · rcases List.mem_append.mp hp with hp | hp
      · rcases List.mem_cons.mp hp with rfl | hp
        · exact .head _
        · exact .tail _ (.tail _ (List.mem_append.mpr (.inl hp)))
      · exact .tail _ (.tail _ (List.mem_append.mpr (.inr hp)))
    · rw [hw'.length, List.take_length] at hD
      exact .list (.head _) (DatAll.mono (fun q hq => .tail _ hq) hD)
end Mine
end PartS9
section PartS10
open PySem PySem.W PyProof.Rows
set_option maxRecDepth 100000
set_option Elab.async false
namespace Mine
theorem fill10 (P : Params) : (fun (_ : OpenLaw) => nsIn (Mine.hd.heap_39 P) mainGlobals (Str.ofString "zz")) PySem.Challenge.rw_oy0031_01 = (fun (_ : OpenLaw) => nsIn (Mine.hd.heap_39 P) mainGlobals (Str.ofString "zz")) PySem.Challenge.rw_oy0031_01 := by
  k_fill
  rfl

theorem short_mem1 {o : Option Str} (h : o ∈ langs) : ShortS o := by
  simp only [langs, List.mem_cons, List.not_mem_nil, or_false] at h
  rcases h with rfl | rfl | rfl | rfl
  · exact short_none
  · exact short_str _ (by decide)
  · exact short_str _ (by decide)
  · exact short_str _ (by decide)
theorem short_mem2 {o : Option Str} (h : o ∈ encs) : ShortS o := by
  simp only [encs, List.mem_cons, List.not_mem_nil, or_false] at h
  rcases h with rfl | rfl | rfl
  · exact short_none
  · exact short_str _ (by decide)
  · exact short_str _ (by decide)
theorem datall_at {news : List (Addr × Obj)} {vs : List Value} {ls : List (Option Str)} (h : DatAll news vs (ls.map optD)) {i : Nat} {v : Value} (hv : vs[i]? = some v) : ∃ l ∈ ls, DatIn news v (optD l) := by
  induction ls generalizing vs i with
  | nil => cases h; simp at hv
  | cons a r ih =>
    cases h with
    | cons h1 h2 =>
      cases i with
      | zero => simp at hv; subst hv; exact ⟨a, .head _, h1⟩
      | succ j => obtain ⟨l, hl, hd⟩ := ih h2 (by simpa using hv); exact ⟨l, .tail _ hl, hd⟩
set_option maxHeartbeats 4000000 in
theorem there_ok {prog : Program} {w : World} {p : Program} {loose : List Str} {mean : ExcName → Option Value} {mg mb : Str → Option Value}
   {dp un : Nat} {gd : Option (List Code)} {cn : Str} {cs : Scope} {a : Addr} {ccd : Value} {cl : List (Str × Addr)} {outer : List Env} {A₀ : Around} {base h₀ : Heap} {L : Addr} {m : Str → Option Value} {s : Shared} {Q E : Value → Shared → Prop}
   (B : Below A₀ base outer h₀) (F : Fr h₀ L s.heap m) (X : (Mine.hd.heap_39 w.params).In h₀) (T : Top p loose mean mg mb h₀) (hk : cs.kind = .function) (hd : dp + 7 < recursionLimit) (hu : un + 192 < cLine)
   {news : List (Addr × Obj)} (N : News h₀ L s.heap news) {sl : Addr} {svs : List Value} {ns : List Int} (hs : h₀.IsList sl svs.toArray) (hI : IntsAre svs ns) (hlen : ns.length ≤ 63)
   (ret : ∀ h' tk' r new (zs : List Str), Fr h₀ L h' m → News h₀ L h' (new ++ news) → DatIn new r (.list (zs.map Dat.str)) → zs.length ≤ 12 → (∀ z ∈ zs, ∃ l ∈ langs, ∃ e ∈ encs, z = nameOf l e) → Q r { s with heap := h', toks := tk' }) :
   wpAny (model prog w) (ktrTop dp un gd cn cs L a ccd cl outer) (call (.ref 77) [.ref sl]) Q E s := by
  refine wpAny_call ?_
  k_dflt ktr_enter
  generalize s.toks + List.length _ = tk0
  rename_i g L1 h1 FG F1 N1 B1 X1 T1
  replace F1 := fr_binds F1 (l := [((Str.ofString "script"), .ref sl)]) rfl
  have hs1 : g.IsList sl svs.toArray := hs.at fun o e => FG.keep sl o e
  repeat ((first | (with_reducible show wpAny _ _ _ _ _ _) | (with_reducible show ite _ _ _)); (fail_if_success (with_reducible show wpAny _ _ (exec (PySem.Stmt.While _ _ _ _) _) _ _ _)); (fail_if_success (with_reducible show wpAny _ _ (exec (PySem.Stmt.For _ _ _ _ _) _) _ _ _)); (fail_if_success (with_reducible show wpAny _ _ (pyIter _) _ _ _)); (fail_if_success (with_reducible show wpAny _ _ (subscriptTail _ _ _ _) _ _ _)); (fail_if_success (with_reducible show wpAny _ _ (call (Value.builtin "list.append") _) _ _ _)); (fail_if_success (with_reducible show wpAny _ _ (getMethod _ _ _) _ _ _)); (fail_if_success (with_reducible show wpAny _ _ (newList _) _ _ _)); (fail_if_success (with_reducible show wpAny _ _ (newTuple _) _ _ _)); walk1; (try dsimp only))
  rename Fr _ _ _ _ => F2
  rename News _ _ _ _ => N2
  have hlv : svs.length = ns.length := hI.length
  rename Heap => h2
  k_dflt (refine' kmk_slice_ints (s := { s with heap := h2, toks := _ }) (vs := svs) (ns := ns) (ms := ns.take 8) (c := min 8 ns.length) ?kF ?kN ?kl ?kp ?kq ?ki ?km ?kc ?_ ?ks ?kt ?kz; (case kF => exact F2); (case kN => exact N2))
  case kl => exact hs1.at fun o e => F2.keep sl o e
  case kp => kmk_part
  case kq => kmk_part
  case ki => exact hI
  case km => exact kmk_upto hI (by decide)
  case kc => simp
  case ks => with_unfolding_all rfl
  case kt => kmk_pure
  case kz => rw [List.size_toArray, sizeLine_eq]; omega
  intro D ws h3 F3 N3 l3 hw hc hle
  repeat ((first | (with_reducible show wpAny _ _ _ _ _ _) | (with_reducible show ite _ _ _)); (fail_if_success (with_reducible show wpAny _ _ (exec (PySem.Stmt.While _ _ _ _) _) _ _ _)); (fail_if_success (with_reducible show wpAny _ _ (exec (PySem.Stmt.For _ _ _ _ _) _) _ _ _)); (fail_if_success (with_reducible show wpAny _ _ (pyIter _) _ _ _)); (fail_if_success (with_reducible show wpAny _ _ (subscriptTail _ _ _ _) _ _ _)); (fail_if_success (with_reducible show wpAny _ _ (call (Value.builtin "list.append") _) _ _ _)); (fail_if_success (with_reducible show wpAny _ _ (getMethod _ _ _) _ _ _)); (fail_if_success (with_reducible show wpAny _ _ (newList _) _ _ _)); (fail_if_success (with_reducible show wpAny _ _ (newTuple _) _ _ _)); walk1; (try dsimp only))
  rename Fr _ _ _ _ => F4
  rename News _ _ _ _ => N4
  have N4' : News g L1 _ news := news_sub N4 (fun p hp => .tail _ hp)
  generalize (520 + 5 * _ : Int) = bits
  refine lst_new F4 N4' ?_ (by rw [sizeLine_eq]; simp)
  intro ln h5 F5 N5 lt5
  repeat ((first | (with_reducible show wpAny _ _ _ _ _ _) | (with_reducible show ite _ _ _)); (fail_if_success (with_reducible show wpAny _ _ (exec (PySem.Stmt.While _ _ _ _) _) _ _ _)); (fail_if_success (with_reducible show wpAny _ _ (exec (PySem.Stmt.For _ _ _ _ _) _) _ _ _)); (fail_if_success (with_reducible show wpAny _ _ (pyIter _) _ _ _)); (fail_if_success (with_reducible show wpAny _ _ (subscriptTail _ _ _ _) _ _ _)); (fail_if_success (with_reducible show wpAny _ _ (call (Value.builtin "list.append") _) _ _ _)); (fail_if_success (with_reducible show wpAny _ _ (getMethod _ _ _) _ _ _)); (fail_if_success (with_reducible show wpAny _ _ (newList _) _ _ _)); (fail_if_success (with_reducible show wpAny _ _ (newTuple _) _ _ _)); walk1; (try dsimp only))
  rename Fr _ _ _ _ => F6
  (with_unfolding_all refine' For_invVF F6 ?k1 ?k2 ?_; (case k1 => exact rfl); (case k2 => exact rfl))
  repeat ((first | (with_reducible show wpAny _ _ _ _ _ _) | (with_reducible show ite _ _ _)); (fail_if_success (with_reducible show wpAny _ _ (exec (PySem.Stmt.While _ _ _ _) _) _ _ _)); (fail_if_success (with_reducible show wpAny _ _ (exec (PySem.Stmt.For _ _ _ _ _) _) _ _ _)); (fail_if_success (with_reducible show wpAny _ _ (pyIter _) _ _ _)); (fail_if_success (with_reducible show wpAny _ _ (subscriptTail _ _ _ _) _ _ _)); (fail_if_success (with_reducible show wpAny _ _ (call (Value.builtin "list.append") _) _ _ _)); (fail_if_success (with_reducible show wpAny _ _ (getMethod _ _ _) _ _ _)); (fail_if_success (with_reducible show wpAny _ _ (newList _) _ _ _)); (fail_if_success (with_reducible show wpAny _ _ (newTuple _) _ _ _)); walk1; (try dsimp only))
  rename Fr _ _ _ _ => F7
  rename News _ _ _ _ => N7
  refine lst_new F7 N7 ?_ (by rw [sizeLine_eq]; simp)
  intro Do h8 F8 N8 lt8
  repeat ((first | (with_reducible show wpAny _ _ _ _ _ _) | (with_reducible show ite _ _ _)); (fail_if_success (with_reducible show wpAny _ _ (exec (PySem.Stmt.While _ _ _ _) _) _ _ _)); (fail_if_success (with_reducible show wpAny _ _ (exec (PySem.Stmt.For _ _ _ _ _) _) _ _ _)); (fail_if_success (with_reducible show wpAny _ _ (pyIter _) _ _ _)); (fail_if_success (with_reducible show wpAny _ _ (subscriptTail _ _ _ _) _ _ _)); (fail_if_success (with_reducible show wpAny _ _ (call (Value.builtin "list.append") _) _ _ _)); (fail_if_success (with_reducible show wpAny _ _ (getMethod _ _ _) _ _ _)); (fail_if_success (with_reducible show wpAny _ _ (newList _) _ _ _)); (fail_if_success (with_reducible show wpAny _ _ (newTuple _) _ _ _)); walk1; (try dsimp only))
  have hVo : DatAll [] [Value.none, Value.str (Str.ofString "de") tk, Value.str (Str.ofString "") (tk + 1), Value.str (Str.ofString "ja") (tk + 1 + 1)] (langs.map optD) := .cons .none (.cons (.str _ _) (.cons (.str _ _) (.cons (.str _ _) .nil)))
  generalize hvo : [Value.none, Value.str (Str.ofString "de") tk, Value.str (Str.ofString "") (tk + 1), Value.str (Str.ofString "ja") (tk + 1 + 1)] = vo at N8 hVo
  clear hvo
  have hnD : ln ≠ Do := Nat.ne_of_lt (lt8 (ln, listOf [].toArray 0) (.head _))
  have hnN : ∀ p ∈ news, p.1 ≠ ln := fun p hp => Nat.ne_of_lt (lt5 p hp)
  refine for_list (σ := List Value × Nat × List Str × Int × Tok) (fun c => (ln, listOf c.1.toArray c.2.1) :: (Do, listOf vo.toArray 0) :: news) (fun c => [((Str.ofString "names"), .ref ln), ((Str.ofString "bits"), .int c.2.2.2.1 c.2.2.2.2)])
    (fun i c => c.2.2.1.length ≤ 3 * i ∧ DatAll [] c.1 (c.2.2.1.map Dat.str) ∧ (∀ z ∈ c.2.2.1, ∃ l ∈ langs, ∃ e ∈ encs, z = nameOf l e)) ([], 0, [], _, _) rfl (fun c => .tail _ (.head _)) F8 ?_ (by kst_all) ⟨by simp, .nil, (fun p hp => nomatch hp)⟩ ?_ ?_
  · exact news_sub N8 fun p hp => by simp only [List.mem_cons] at hp ⊢; grind
  · rintro i v ⟨wvs, wn, zs, b, tb⟩ u h tk own hv hoff ⟨hlw, hD, hz⟩ F9 N9
    dsimp only at hoff hlw hD hz F9 N9
    have hi : i < 4 := by have z := (List.getElem?_eq_some_iff.mp hv).1; rw [hVo.length] at z; exact z
    obtain ⟨la, hla, hdl⟩ := datall_at (news := []) (ls := langs) hVo hv
    repeat ((first | (with_reducible show wpAny _ _ _ _ _ _) | (with_reducible show ite _ _ _)); (fail_if_success (with_reducible show wpAny _ _ (exec (PySem.Stmt.While _ _ _ _) _) _ _ _)); (fail_if_success (with_reducible show wpAny _ _ (exec (PySem.Stmt.For _ _ _ _ _) _) _ _ _)); (fail_if_success (with_reducible show wpAny _ _ (pyIter _) _ _ _)); (fail_if_success (with_reducible show wpAny _ _ (subscriptTail _ _ _ _) _ _ _)); (fail_if_success (with_reducible show wpAny _ _ (call (Value.builtin "list.append") _) _ _ _)); (fail_if_success (with_reducible show wpAny _ _ (getMethod _ _ _) _ _ _)); (fail_if_success (with_reducible show wpAny _ _ (newList _) _ _ _)); (fail_if_success (with_reducible show wpAny _ _ (newTuple _) _ _ _)); walk1; (try dsimp only))
    rename Fr _ _ _ _ => F10
    (with_unfolding_all refine' For_invVF F10 ?k1 ?k2 ?_; (case k1 => exact rfl); (case k2 => exact rfl))
    repeat ((first | (with_reducible show wpAny _ _ _ _ _ _) | (with_reducible show ite _ _ _)); (fail_if_success (with_reducible show wpAny _ _ (exec (PySem.Stmt.While _ _ _ _) _) _ _ _)); (fail_if_success (with_reducible show wpAny _ _ (exec (PySem.Stmt.For _ _ _ _ _) _) _ _ _)); (fail_if_success (with_reducible show wpAny _ _ (pyIter _) _ _ _)); (fail_if_success (with_reducible show wpAny _ _ (subscriptTail _ _ _ _) _ _ _)); (fail_if_success (with_reducible show wpAny _ _ (call (Value.builtin "list.append") _) _ _ _)); (fail_if_success (with_reducible show wpAny _ _ (getMethod _ _ _) _ _ _)); (fail_if_success (with_reducible show wpAny _ _ (newList _) _ _ _)); (fail_if_success (with_reducible show wpAny _ _ (newTuple _) _ _ _)); walk1; (try dsimp only))
    rename Fr _ _ _ _ => F11
    rename News _ _ _ _ => N11
    refine lst_new F11 N11 ?_ (by rw [sizeLine_eq]; simp)
    intro Di h12 F12 N12 lt12
    repeat ((first | (with_reducible show wpAny _ _ _ _ _ _) | (with_reducible show ite _ _ _)); (fail_if_success (with_reducible show wpAny _ _ (exec (PySem.Stmt.While _ _ _ _) _) _ _ _)); (fail_if_success (with_reducible show wpAny _ _ (exec (PySem.Stmt.For _ _ _ _ _) _) _ _ _)); (fail_if_success (with_reducible show wpAny _ _ (pyIter _) _ _ _)); (fail_if_success (with_reducible show wpAny _ _ (subscriptTail _ _ _ _) _ _ _)); (fail_if_success (with_reducible show wpAny _ _ (call (Value.builtin "list.append") _) _ _ _)); (fail_if_success (with_reducible show wpAny _ _ (getMethod _ _ _) _ _ _)); (fail_if_success (with_reducible show wpAny _ _ (newList _) _ _ _)); (fail_if_success (with_reducible show wpAny _ _ (newTuple _) _ _ _)); walk1; (try dsimp only))
    have hnI : ln ≠ Di := Nat.ne_of_lt (lt12 (ln, listOf wvs.toArray wn) (.head _))
    have hnO : ∀ p ∈ own, p.1 ≠ ln := fun p hp => hoff p hp ln (.head _)
    refine for_list (σ := List Value × Nat × List Str × Int × Tok) (fun c => (ln, listOf c.1.toArray c.2.1) :: (Di, listOf [Value.none, Value.str (Str.ofString "UTF-8") tk, Value.str (Str.ofString "EUC") (tk + 1)].toArray 0) :: (Do, listOf vo.toArray 0) :: (news ++ own)) (fun c => [((Str.ofString "names"), .ref ln), ((Str.ofString "bits"), .int c.2.2.2.1 c.2.2.2.2), ((Str.ofString "language"), v)])
      (fun j c => c.2.2.1.length ≤ 3 * i + j ∧ DatAll [] c.1 (c.2.2.1.map Dat.str) ∧ (∀ z ∈ c.2.2.1, ∃ l ∈ langs, ∃ e ∈ encs, z = nameOf l e)) (wvs, wn, zs, _, _) rfl (fun c => .tail _ (.head _)) F12 ?_ (by kst_all) ⟨hlw, hD, hz⟩ ?_ ?_
    · exact news_sub N12 fun p hp => by simp only [List.mem_cons, List.mem_append] at hp ⊢; grind
    · rintro j v' ⟨wvs, wn, zs, b, tb⟩ u h tk own' hv' hoff' ⟨hlw, hD, hz⟩ F13 N13
      dsimp only at hoff' hlw hD hz F13 N13
      have hj : j < 3 := (List.getElem?_eq_some_iff.mp hv').1
      obtain ⟨le, hle, hde⟩ := datall_at (news := []) (ls := encs) (.cons .none (.cons (.str _ _) (.cons (.str _ _) .nil))) hv'
      have hlw' : wvs.length ≤ 12 := by
        have z := hD.length
        simp only [List.length_map] at z; omega
      repeat ((first | (with_reducible show wpAny _ _ _ _ _ _) | (with_reducible show ite _ _ _)); (fail_if_success (with_reducible show wpAny _ _ (exec (PySem.Stmt.While _ _ _ _) _) _ _ _)); (fail_if_success (with_reducible show wpAny _ _ (exec (PySem.Stmt.For _ _ _ _ _) _) _ _ _)); (fail_if_success (with_reducible show wpAny _ _ (pyIter _) _ _ _)); (fail_if_success (with_reducible show wpAny _ _ (subscriptTail _ _ _ _) _ _ _)); (fail_if_success (with_reducible show wpAny _ _ (call (Value.builtin "list.append") _) _ _ _)); (fail_if_success (with_reducible show wpAny _ _ (getMethod _ _ _) _ _ _)); (fail_if_success (with_reducible show wpAny _ _ (newList _) _ _ _)); (fail_if_success (with_reducible show wpAny _ _ (newTuple _) _ _ _)); walk1; (try dsimp only))
      · rename Fr _ _ _ _ => F14
        rename News _ _ _ _ => N14
        refine listMethod_K (its := wvs.toArray) (n := wn) N14 (.head _) PySem.F.slot_list_append PySem.F.type_list_append ?_
        repeat ((first | (with_reducible show wpAny _ _ _ _ _ _) | (with_reducible show ite _ _ _)); (fail_if_success (with_reducible show wpAny _ _ (exec (PySem.Stmt.While _ _ _ _) _) _ _ _)); (fail_if_success (with_reducible show wpAny _ _ (exec (PySem.Stmt.For _ _ _ _ _) _) _ _ _)); (fail_if_success (with_reducible show wpAny _ _ (pyIter _) _ _ _)); (fail_if_success (with_reducible show wpAny _ _ (subscriptTail _ _ _ _) _ _ _)); (fail_if_success (with_reducible show wpAny _ _ (call (Value.builtin "list.append") _) _ _ _)); (fail_if_success (with_reducible show wpAny _ _ (getMethod _ _ _) _ _ _)); (fail_if_success (with_reducible show wpAny _ _ (newList _) _ _ _)); (fail_if_success (with_reducible show wpAny _ _ (newTuple _) _ _ _)); walk1; (try dsimp only))
        refine ⟨X1.keeps F14.keep, ?_⟩
        k_dflt (refine law_name_ok (l := la) (e := le) B1 F14 X1 T1 rfl ?_ ?_ N14 hdl hde ?_ ?_ ?_)
        · ktr_room
        · ktr_units
        · exact short_mem1 hla
        · exact short_mem2 hle
        intro h15 tk15 t15 F15 N15
        repeat ((first | (with_reducible show wpAny _ _ _ _ _ _) | (with_reducible show ite _ _ _)); (fail_if_success (with_reducible show wpAny _ _ (exec (PySem.Stmt.While _ _ _ _) _) _ _ _)); (fail_if_success (with_reducible show wpAny _ _ (exec (PySem.Stmt.For _ _ _ _ _) _) _ _ _)); (fail_if_success (with_reducible show wpAny _ _ (pyIter _) _ _ _)); (fail_if_success (with_reducible show wpAny _ _ (subscriptTail _ _ _ _) _ _ _)); (fail_if_success (with_reducible show wpAny _ _ (call (Value.builtin "list.append") _) _ _ _)); (fail_if_success (with_reducible show wpAny _ _ (getMethod _ _ _) _ _ _)); (fail_if_success (with_reducible show wpAny _ _ (newList _) _ _ _)); (fail_if_success (with_reducible show wpAny _ _ (newTuple _) _ _ _)); walk1; (try dsimp only))
        refine app_list (rest := (Di, _) :: (Do, _) :: ((news ++ own) ++ own')) F15 N15 ?_ (by omega) ?_
        · intro p hp
          simp only [List.mem_cons, List.mem_append] at hp
          rcases hp with rfl | rfl | (hp | hp) | hp
          · exact fun z => hnI z.symm
          · exact fun z => hnD z.symm
          · exact hnN p hp
          · exact hnO p hp
          · exact hoff' p hp ln (.head _)
        intro h16 F16 N16
        repeat ((first | (with_reducible show wpAny _ _ _ _ _ _) | (with_reducible show ite _ _ _)); (fail_if_success (with_reducible show wpAny _ _ (exec (PySem.Stmt.While _ _ _ _) _) _ _ _)); (fail_if_success (with_reducible show wpAny _ _ (exec (PySem.Stmt.For _ _ _ _ _) _) _ _ _)); (fail_if_success (with_reducible show wpAny _ _ (pyIter _) _ _ _)); (fail_if_success (with_reducible show wpAny _ _ (subscriptTail _ _ _ _) _ _ _)); (fail_if_success (with_reducible show wpAny _ _ (call (Value.builtin "list.append") _) _ _ _)); (fail_if_success (with_reducible show wpAny _ _ (getMethod _ _ _) _ _ _)); (fail_if_success (with_reducible show wpAny _ _ (newList _) _ _ _)); (fail_if_success (with_reducible show wpAny _ _ (newTuple _) _ _ _)); walk1; (try dsimp only))
        rename Fr _ _ _ _ => F17
        rename News _ _ _ _ => N17
        refine f_end (wvs ++ [Value.str (nameOf la le) t15], wn + 1, zs ++ [nameOf la le], _, _) F17 N17 hoff' (by kst_all) ⟨?_, ?_, ?_⟩
        · simp only [List.length_append, List.length_singleton]; omega
        · rw [List.map_append]; exact hD.append (.cons (.str _ _) .nil)
        · intro z hz'
          rcases List.mem_append.mp hz' with q | q
          · exact hz z q
          · rw [List.mem_singleton.mp q]; exact ⟨la, hla, le, hle, rfl⟩
      · repeat ((first | (with_reducible show wpAny _ _ _ _ _ _) | (with_reducible show ite _ _ _)); (fail_if_success (with_reducible show wpAny _ _ (exec (PySem.Stmt.While _ _ _ _) _) _ _ _)); (fail_if_success (with_reducible show wpAny _ _ (exec (PySem.Stmt.For _ _ _ _ _) _) _ _ _)); (fail_if_success (with_reducible show wpAny _ _ (pyIter _) _ _ _)); (fail_if_success (with_reducible show wpAny _ _ (subscriptTail _ _ _ _) _ _ _)); (fail_if_success (with_reducible show wpAny _ _ (call (Value.builtin "list.append") _) _ _ _)); (fail_if_success (with_reducible show wpAny _ _ (getMethod _ _ _) _ _ _)); (fail_if_success (with_reducible show wpAny _ _ (newList _) _ _ _)); (fail_if_success (with_reducible show wpAny _ _ (newTuple _) _ _ _)); walk1; (try dsimp only))
        rename Fr _ _ _ _ => F17
        rename News _ _ _ _ => N17
        refine f_end (wvs, wn, zs, _, _) F17 N17 hoff' (by kst_all) ⟨?_, hD, hz⟩
        show zs.length ≤ _
        omega
    · rintro ⟨wvs, wn, zs, b, tb⟩ u h tk ⟨hlw, hD, hz⟩ F13 N13
      dsimp only at hlw hD hz F13 N13
      repeat ((first | (with_reducible show wpAny _ _ _ _ _ _) | (with_reducible show ite _ _ _)); (fail_if_success (with_reducible show wpAny _ _ (exec (PySem.Stmt.While _ _ _ _) _) _ _ _)); (fail_if_success (with_reducible show wpAny _ _ (exec (PySem.Stmt.For _ _ _ _ _) _) _ _ _)); (fail_if_success (with_reducible show wpAny _ _ (pyIter _) _ _ _)); (fail_if_success (with_reducible show wpAny _ _ (subscriptTail _ _ _ _) _ _ _)); (fail_if_success (with_reducible show wpAny _ _ (call (Value.builtin "list.append") _) _ _ _)); (fail_if_success (with_reducible show wpAny _ _ (getMethod _ _ _) _ _ _)); (fail_if_success (with_reducible show wpAny _ _ (newList _) _ _ _)); (fail_if_success (with_reducible show wpAny _ _ (newTuple _) _ _ _)); walk1; (try dsimp only))
      refine f_end (wvs, wn, zs, b, tb) F13 (news_sub N13 fun p hp => by simp only [List.mem_cons, List.mem_append] at hp ⊢; grind) hoff (by kst_all) ⟨?_, hD, hz⟩
      simp only [List.length_cons, List.length_nil] at hlw
      omega
  · rintro ⟨wvs, wn, zs, b, tb⟩ u h tk ⟨hlw, hD, hz⟩ F9 N9
    dsimp only at hlw hD hz F9 N9
    repeat ((first | (with_reducible show wpAny _ _ _ _ _ _) | (with_reducible show ite _ _ _)); (fail_if_success (with_reducible show wpAny _ _ (exec (PySem.Stmt.While _ _ _ _) _) _ _ _)); (fail_if_success (with_reducible show wpAny _ _ (exec (PySem.Stmt.For _ _ _ _ _) _) _ _ _)); (fail_if_success (with_reducible show wpAny _ _ (pyIter _) _ _ _)); (fail_if_success (with_reducible show wpAny _ _ (subscriptTail _ _ _ _) _ _ _)); (fail_if_success (with_reducible show wpAny _ _ (call (Value.builtin "list.append") _) _ _ _)); (fail_if_success (with_reducible show wpAny _ _ (getMethod _ _ _) _ _ _)); (fail_if_success (with_reducible show wpAny _ _ (newList _) _ _ _)); (fail_if_success (with_reducible show wpAny _ _ (newTuple _) _ _ _)); walk1; (try dsimp only))
    refine leaveK_ F9 N9 fun F10 N10 => ret _ _ _ [(ln, listOf wvs.toArray wn)] zs F10 (news_sub N10 fun p hp => ?_) ?_ (by rw [hVo.length] at hlw; exact hlw) hz
    · simp only [List.singleton_append, List.mem_cons] at hp ⊢; grind
    · exact .list (.head _) (DatAll.mono (fun q hq => by cases hq) hD)
end Mine
end PartS10
section PartP3
open PySem PySem.W PyProof.Rows
set_option Elab.async false
namespace Mine
def Sat {α : Type} (lt : Nat → Nat → Bool) (n : Nat) : KasT α → (α → Prop) → Prop
  | .ret a, P => P a
  | .ask i j k, P => i < n ∧ j < n ∧ i ≠ j ∧ Sat lt n (k (lt i j)) P
theorem Sat.bind {α β : Type} {lt : Nat → Nat → Bool} {n : Nat} {f : α → KasT β} {P : α → Prop} {R : β → Prop} : ∀ {t : KasT α}, Sat lt n t P → (∀ a, P a → Sat lt n (f a) R) → Sat lt n (t.bind f) R
  | .ret a, h, hf => hf a h
  | .ask i j k, h, hf => ⟨h.1, h.2.1, h.2.2.1, Sat.bind h.2.2.2 hf⟩
theorem Sat.mono {α : Type} {lt : Nat → Nat → Bool} {n : Nat} {P R : α → Prop} : ∀ {t : KasT α}, Sat lt n t P → (∀ a, P a → R a) → Sat lt n t R
  | .ret a, h, hf => hf a h
  | .ask _ _ _, h, hf => ⟨h.1, h.2.1, h.2.2.1, Sat.mono h.2.2.2 hf⟩
section
variable {lt : Nat → Nat → Bool} {n : Nat}
structure Sto (lt : Nat → Nat → Bool) (n : Nat) : Prop where
  tot : ∀ i j, i < n → j < n → i ≠ j → lt i j = !lt j i
  trans : ∀ i j k, i < n → j < n → k < n → lt i j = true → lt j k = true → lt i k = true
def POk (n : Nat) (p : Array Nat) : Prop := p.toList.Perm (List.range n)
abbrev gA (p : Array Nat) (i : Nat) : Nat := p.getD i 0
theorem POk.size {p : Array Nat} (h : POk n p) : p.size = n := by have := h.length_eq; simpa using this
theorem gA_eq {p : Array Nat} {i : Nat} (h : i < p.size) : gA p i = p[i] := by simp [gA, Array.getD, h]
theorem POk.bd {p : Array Nat} (h : POk n p) {i : Nat} (hi : i < n) : gA p i < n := by
  have hs := h.size
  rw [gA_eq (by omega)]
  have : p[i] ∈ p.toList := by simp
  exact List.mem_range.mp (h.mem_iff.mp this)
theorem POk.ne {p : Array Nat} (h : POk n p) {i j : Nat} (hi : i < n) (hj : j < n) (hij : i ≠ j) : gA p i ≠ gA p j := by
  have hs := h.size
  rw [gA_eq (by omega), gA_eq (by omega)]
  have nd : p.toList.Nodup := h.nodup_iff.mpr List.nodup_range
  intro e
  have := (List.getElem_inj (xs := p.toList) (i := i) (j := j) (h₀ := by simpa using (by omega)) (h₁ := by simpa using (by omega)) nd).mp (by simpa using e)
  exact hij this
def Asc (lt : Nat → Nat → Bool) (p : Array Nat) (m : Nat) : Prop := ∀ i j, i < j → j < m → lt (gA p i) (gA p j) = true
def Desc (lt : Nat → Nat → Bool) (p : Array Nat) (m : Nat) : Prop := ∀ i j, i < j → j < m → lt (gA p j) (gA p i) = true
theorem asc_more (S : Sto lt n) {p : Array Nat} (h : POk n p) {m : Nat} (hm : m < n) (a : Asc lt p m) (h1 : 1 ≤ m) (hl : lt (gA p (m - 1)) (gA p m) = true) : Asc lt p (m + 1) := by
  intro i j hij hj
  by_cases e : j < m
  · exact a i j hij e
  · have e : j = m := by omega
    subst e
    by_cases e2 : i = j - 1
    · subst e2; exact hl
    · exact S.trans _ _ _ (h.bd (by omega)) (h.bd (by omega)) (h.bd (by omega)) (a i (j - 1) (by omega) (by omega)) hl
theorem desc_more (S : Sto lt n) {p : Array Nat} (h : POk n p) {m : Nat} (hm : m < n) (a : Desc lt p m) (h1 : 1 ≤ m) (hl : lt (gA p m) (gA p (m - 1)) = true) : Desc lt p (m + 1) := by
  intro i j hij hj
  by_cases e : j < m
  · exact a i j hij e
  · have e : j = m := by omega
    subst e
    by_cases e2 : i = j - 1
    · subst e2; exact hl
    · exact S.trans _ _ _ (h.bd (by omega)) (h.bd (by omega)) (h.bd (by omega)) hl (a i (j - 1) (by omega) (by omega))
theorem asc_sat (S : Sto lt n) {p : Array Nat} (h : POk n p) : ∀ (f a : Nat), 1 ≤ a → a + f ≤ n → Asc lt p a → Sat lt n (kas_asc p f a) (fun m => a ≤ m ∧ m ≤ a + f ∧ Asc lt p m ∧ (m < a + f → lt (gA p m) (gA p (m - 1)) = true))
  | 0, a, h1, h2, ha => ⟨Nat.le_refl _, Nat.le_refl _, ha, fun q => by omega⟩
  | f + 1, a, h1, h2, ha => by
    have i1 := h.bd (i := a) (by omega)
    have i2 := h.bd (i := a - 1) (by omega)
    have i3 := h.ne (i := a) (j := a - 1) (by omega) (by omega) (by omega)
    refine ⟨i1, i2, i3, ?_⟩
    have t := S.tot _ _ i1 i2 i3
    cases e : lt (gA p a) (gA p (a - 1)) with
    | true => exact ⟨Nat.le_refl _, by omega, ha, fun _ => e⟩
    | false =>
      rw [e] at t
      have ha' := asc_more S h (by omega) ha h1 (by simpa using t.symm)
      exact (asc_sat S h f (a + 1) (by omega) (by omega) ha').mono fun m hm => ⟨by omega, by omega, hm.2.2.1, fun q => hm.2.2.2 (by omega)⟩
theorem desc_sat (S : Sto lt n) {p : Array Nat} (h : POk n p) : ∀ (f a : Nat), 1 ≤ a → a + f ≤ n → Desc lt p a → Sat lt n (kas_desc f p a 0) (fun r => r.1 = p ∧ r.2.2 = 0 ∧ a ≤ r.2.1 ∧ r.2.1 ≤ a + f ∧ Desc lt p r.2.1)
  | 0, a, h1, h2, ha => ⟨rfl, rfl, Nat.le_refl _, Nat.le_refl _, ha⟩
  | f + 1, a, h1, h2, ha => by
    have i1 := h.bd (i := a) (by omega)
    have i2 := h.bd (i := a - 1) (by omega)
    have i3 := h.ne (i := a) (j := a - 1) (by omega) (by omega) (by omega)
    refine ⟨i1, i2, i3, ?_⟩
    have t := S.tot _ _ i1 i2 i3
    cases e : lt (gA p a) (gA p (a - 1)) with
    | true =>
      have ha' := desc_more S h (by omega) ha h1 e
      exact (desc_sat S h f (a + 1) (by omega) (by omega) ha').mono fun r hr => ⟨hr.1, hr.2.1, by omega, by omega, hr.2.2.2.2⟩
    | false =>
      rw [e] at t
      have t' : lt (gA p (a - 1)) (gA p a) = true := by simpa using t.symm
      refine ⟨i2, i1, fun q => i3 q.symm, ?_⟩
      show Sat lt n (if lt (gA p (a - 1)) (gA p a) = true then _ else _) _
      rw [t', if_pos rfl]
      exact ⟨rfl, rfl, Nat.le_refl _, by show a ≤ _; omega, ha⟩
theorem rev_ok {p : Array Nat} (h : POk n p) (i j : Nat) : POk n (kas_rev p i j) := (Array.perm_iff_toList_perm.mp (mirror_perm p i j _)).trans h
theorem rev_get {p : Array Nat} (h : POk n p) {m i : Nat} (hm : m ≤ n) (hi : i < m) : gA (kas_rev p 0 m) i = gA p (m - 1 - i) := by
  have hs := h.size
  have hs2 := (rev_ok h 0 m).size
  have e := getElem?_mirror_all (xs := p) (i := 0) (j := m) (by omega) i
  rw [if_pos ⟨by omega, hi⟩, Nat.zero_add] at e
  rw [gA_eq (by omega), gA_eq (by omega)]
  have e' : (kas_rev p 0 m)[i]? = p[m - 1 - i]? := e
  rw [getElem?_pos _ _ (by omega), getElem?_pos _ _ (by omega)] at e'
  exact Option.some.inj e'
theorem rev_asc {p : Array Nat} (h : POk n p) {m : Nat} (hm : m ≤ n) (hd : Desc lt p m) : Asc lt (kas_rev p 0 m) m := by
  intro i j hij hj
  rw [rev_get h hm (by omega), rev_get h hm hj]
  exact hd _ _ (by omega) (by omega)
theorem tail3_sat (S : Sto lt n) {p : Array Nat} (h : POk n p) {m : Nat} (h1 : 1 ≤ m) (hm : m ≤ n) (hd : Desc lt p m) : Sat lt n (kas_tail3 m n p) (fun r => POk n r.2 ∧ 1 ≤ r.1 ∧ r.1 ≤ n ∧ Asc lt r.2 r.1) := by
  unfold kas_tail3
  refine (asc_sat S (rev_ok h 0 m) (n - m) m h1 (by omega) (rev_asc h hm hd)).bind fun k hk => ?_
  exact ⟨rev_ok h 0 m, by show 1 ≤ k; omega, by show k ≤ n; omega, hk.2.2.1⟩
theorem count_sat (S : Sto lt n) {p : Array Nat} (h : POk n p) (h1 : 1 ≤ n) : Sat lt n (kas_count n p) (fun r => POk n r.2 ∧ 1 ≤ r.1 ∧ r.1 ≤ n ∧ Asc lt r.2 r.1) := by
  unfold kas_count
  refine (asc_sat S h (n - 1) 1 (Nat.le_refl _) (by omega) (fun i j hij hj => by omega)).bind fun m ⟨m1, m2, ma, ml⟩ => ?_
  by_cases e : m = n
  · rw [if_pos (by simp [e])]
    exact ⟨h, m1, by omega, ma⟩
  · rw [if_neg (by simp [e])]
    by_cases e2 : m > 1
    · rw [if_pos e2]
      refine ⟨h.bd (by omega), h.bd (by omega), h.ne (by omega) (by omega) (by omega), ?_⟩
      have := ma 0 (m - 1) (by omega) (by omega)
      show Sat lt n (if lt (gA p 0) (gA p (m - 1)) = true then _ else _) _
      rw [this, if_pos rfl]
      exact ⟨h, m1, by omega, ma⟩
    · rw [if_neg e2]
      have e3 : m = 1 := by omega
      subst e3
      have l1 := ml (by omega)
      unfold kas_descPart
      have hd : Desc lt p (1 + 1) := by
        intro i j hij hj
        have : i = 0 := by omega
        have : j = 1 := by omega
        subst i; subst j
        exact l1
      refine (desc_sat S h (n - (1 + 1)) (1 + 1) (by omega) (by omega) hd).bind fun r ⟨r1, r2, r3, r4, r5⟩ => ?_
      rw [if_neg (by omega), r1]
      exact tail3_sat S h (by omega) (by omega) r5
theorem place_sat (S : Sto lt n) {p : Array Nat} (h : POk n p) {k : Nat} (hk : k < n) (ha : Asc lt p k) : ∀ (f l r : Nat), l ≤ r → r ≤ k → r - l ≤ f → (∀ i, i < l → lt (gA p i) (gA p k) = true) → (∀ i, r ≤ i → i < k → lt (gA p k) (gA p i) = true) →
    Sat lt n (kas_place p k f l r) (fun m => m ≤ k ∧ (∀ i, i < m → lt (gA p i) (gA p k) = true) ∧ (∀ i, m ≤ i → i < k → lt (gA p k) (gA p i) = true))
  | 0, l, r, h1, h2, h3, h4, h5 => by
    have : l = r := by omega
    subst this
    exact ⟨h2, h4, h5⟩
  | f + 1, l, r, h1, h2, h3, h4, h5 => by
    unfold kas_place
    by_cases e : l ≥ r
    · rw [if_pos e]
      have : l = r := by omega
      subst this
      exact ⟨h2, h4, h5⟩
    · rw [if_neg e]
      have hc : (l + r) / 2 < r := by omega
      have hc' : l ≤ (l + r) / 2 := by omega
      generalize (l + r) / 2 = c at hc hc'
      have i1 := h.bd (i := k) hk
      have i2 := h.bd (i := c) (by omega)
      have i3 := h.ne (i := k) (j := c) hk (by omega) (by omega)
      refine ⟨i1, i2, i3, ?_⟩
      have t := S.tot _ _ i1 i2 i3
      cases e : lt (gA p k) (gA p c) with
      | true =>
        refine place_sat S h hk ha f l c hc' (by omega) (by omega) h4 fun i hi hik => ?_
        by_cases q : i = c
        · subst q; exact e
        · exact S.trans _ _ _ i1 i2 (h.bd (by omega)) e (ha c i (by omega) hik)
      | false =>
        rw [e] at t
        have t' : lt (gA p c) (gA p k) = true := by simpa using t.symm
        refine place_sat S h hk ha f (c + 1) r (by omega) h2 (by omega) (fun i hi => ?_) h5
        by_cases q : i = c
        · subst q; exact t'
        · exact S.trans _ _ _ (h.bd (by omega)) i2 i1 (ha i c (by omega) (by omega)) t'
theorem bub_ok {p : Array Nat} (h : POk n p) (i j : Nat) : POk n (bubble p i j) := (Array.perm_iff_toList_perm.mp (bubble_perm p i j)).trans h
theorem bub_get {p : Array Nat} (h : POk n p) {k m i : Nat} (hk : k < n) (hm : m ≤ k) (hi : i < n) : gA (bubble p k (k - m)) i = if i = m then gA p k else if m < i ∧ i ≤ k then gA p (i - 1) else gA p i := by
  have hs := h.size
  have hs2 := (bub_ok h k (k - m)).size
  have e := getElem?_bubble (xs := p) (src := k) (by omega) (k - m) (by omega) i
  rw [show k - (k - m) = m by omega] at e
  rw [gA_eq (by omega), gA_eq (i := k) (by omega), gA_eq (i := i - 1) (by omega), gA_eq (p := p) (i := i) (by omega)]
  rw [getElem?_pos _ i (by omega), getElem?_pos p k (by omega), getElem?_pos p (i - 1) (by omega), getElem?_pos p i (by omega)] at e
  apply Option.some.inj
  rw [e]
  repeat' split
  all_goals rfl
theorem bub_asc {p : Array Nat} (h : POk n p) {k m : Nat} (hk : k < n) (ha : Asc lt p k) (hm : m ≤ k) (h4 : ∀ i, i < m → lt (gA p i) (gA p k) = true) (h5 : ∀ i, m ≤ i → i < k → lt (gA p k) (gA p i) = true) : Asc lt (bubble p k (k - m)) (k + 1) := by
  intro i j hij hj
  rw [bub_get h hk hm (by omega), bub_get h hk hm (by omega)]
  by_cases a1 : i = m
  · rw [if_pos a1, if_neg (by omega), if_pos (by omega)]
    exact h5 _ (by omega) (by omega)
  · rw [if_neg a1]
    by_cases a2 : m < i
    · rw [if_pos (by omega), if_neg (by omega), if_pos (by omega)]
      exact ha _ _ (by omega) (by omega)
    · rw [if_neg (by omega)]
      by_cases a3 : j = m
      · rw [if_pos a3]; exact h4 _ (by omega)
      · rw [if_neg a3]
        by_cases a4 : m < j
        · rw [if_pos (by omega)]; exact ha _ _ (by omega) (by omega)
        · rw [if_neg (by omega)]; exact ha _ _ (by omega) (by omega)
theorem bin_sat (S : Sto lt n) : ∀ (f : Nat) (p : Array Nat) (k : Nat), POk n p → k + f = n → Asc lt p k → Sat lt n (kas_bin f p k) (fun p' => POk n p' ∧ Asc lt p' n)
  | 0, p, k, h, e, ha => by
    have : k = n := by omega
    subst this
    exact ⟨h, ha⟩
  | f + 1, p, k, h, e, ha => by
    unfold kas_bin
    refine (place_sat S h (by omega) ha k 0 k (by omega) (Nat.le_refl _) (by omega) (fun i hi => by omega) (fun i h1 h2 => by omega)).bind fun m ⟨m1, m2, m3⟩ => ?_
    exact bin_sat S f _ (k + 1) (bub_ok h _ _) (by omega) (bub_asc h (by omega) ha m1 m2 m3)
theorem sort_sat (S : Sto lt n) (h1 : 1 ≤ n) : Sat lt n (kas_sort n) (fun p' => POk n p' ∧ Asc lt p' n) := by
  unfold kas_sort
  have h0 : POk n (List.toArray (List.range n)) := by unfold POk; exact List.Perm.refl _
  refine (count_sat S h0 h1).bind fun r ⟨r1, r2, r3, r4⟩ => ?_
  by_cases e : r.1 < n
  · rw [if_pos e, show max r.1 1 = r.1 by omega]
    exact bin_sat S _ _ _ r1 (by omega) r4
  · rw [if_neg e]
    have : r.1 = n := by omega
    rw [this] at r4
    exact ⟨r1, r4⟩
end
end Mine
end PartP3
section PartW2
open PySem PySem.W PyProof.Rows
set_option maxRecDepth 100000
set_option Elab.async false
namespace Mine
abbrev Try := Tri × Str
def tryD (t : Try) : Dat := .tuple [.int t.1.1, .int t.1.2.1, .int t.1.2.2, .str t.2]
theorem try_of {news : List (Addr × Obj)} {v : Value} {t : Try} (h : DatIn news v (tryD t)) :
    ∃ a x y z u n, v = .ref a ∧ (a, ({ cls := .type "tuple", data := .seq #[.int t.1.1 x, .int t.1.2.1 y, .int t.1.2.2 z, .str t.2 u] n } : Obj)) ∈ news := by
  cases h with
  | tuple hm r =>
    cases r with
    | cons h1 r =>
      cases r with
      | cons h2 r =>
        cases r with
        | cons h3 r =>
          cases r with
          | cons h4 r =>
            cases r; cases h1; cases h2; cases h3; cases h4
            exact ⟨_, _, _, _, _, _, rfl, hm⟩
theorem triLt_sto {ts : List Try} (hnd : (ts.map (·.1)).Nodup) : Sto (fun i j => triLt (ts.getD i default).1 (ts.getD j default).1) ts.length := by
  constructor
  · intro i j hi hj hij
    have hne : (ts.getD i default).1 ≠ (ts.getD j default).1 := by
      intro e
      have := (List.getElem_inj (xs := ts.map (·.1)) (i := i) (j := j) (h₀ := by simpa using hi) (h₁ := by simpa using hj) hnd).mp (by simpa [List.getD_eq_getElem?_getD, hi, hj] using e)
      exact hij this
    generalize (ts.getD i default).1 = a at hne
    generalize (ts.getD j default).1 = b at hne
    obtain ⟨a1, a2, a3⟩ := a
    obtain ⟨b1, b2, b3⟩ := b
    by_cases e1 : a1 = b1
    · subst e1
      by_cases e2 : a2 = b2
      · subst e2
        have e3 : a3 ≠ b3 := fun q => hne (by rw [q])
        simp only [triLt, if_true]
        rw [Bool.eq_iff_iff]; simp; omega
      · have e2' : ¬ b2 = a2 := fun q => e2 q.symm
        simp only [triLt, e2, e2', if_true, if_false]
        rw [Bool.eq_iff_iff]; simp; omega
    · have e1' : ¬ b1 = a1 := fun q => e1 q.symm
      simp only [triLt, e1, e1', if_false]
      rw [Bool.eq_iff_iff]; simp; omega
  · intro i j k _ _ _ h1 h2
    generalize (ts.getD i default).1 = a at h1 h2 ⊢
    generalize (ts.getD j default).1 = b at h1 h2 ⊢
    generalize (ts.getD k default).1 = c at h1 h2 ⊢
    obtain ⟨a1, a2, a3⟩ := a
    obtain ⟨b1, b2, b3⟩ := b
    obtain ⟨c1, c2, c3⟩ := c
    simp only [triLt] at h1 h2 ⊢
    by_cases e1 : a1 = b1 <;> by_cases e2 : a2 = b2 <;> by_cases e3 : b1 = c1 <;> by_cases e4 : b2 = c2 <;> by_cases e5 : a1 = c1 <;> by_cases e6 : a2 = c2 <;> simp_all <;> omega
theorem sat_wp {α : Type} {lt : Nat → Nat → Bool} {n : Nat} {cmp : Nat → Nat → (Bool → Shared → Prop) → Shared → Prop} {P : α → Prop} {Q : α → Shared → Prop} {s : Shared}
    (hc : ∀ i j C, i < n → j < n → i ≠ j → C (lt i j) s → cmp i j C s) (hq : ∀ a, P a → Q a s) : ∀ {t : KasT α}, Sat lt n t P → t.kasWp cmp Q s
  | .ret a, h => hq a h
  | .ask i j k, h => hc i j _ h.1 h.2.1 h.2.2.1 (sat_wp hc hq h.2.2.2)
theorem datall_getD {news : List (Addr × Obj)} {vs : List Value} {ts : List Try} (h : DatAll news vs (ts.map tryD)) {i : Nat} (hi : i < ts.length) : DatIn news (vs.getD i .none) (tryD (ts.getD i default)) := by
  have := DatAll.getD' h i
  have e : (ts.map tryD).getD i .none = tryD (ts.getD i default) := by simp [List.getD_eq_getElem?_getD, hi]
  rw [e] at this
  exact this
theorem tups_of {h₀ h : Heap} {L : Addr} {news fz : List (Addr × Obj)} (N : News h₀ L h news) (hs : ∀ p ∈ fz, p ∈ news) : ∀ {vs : List Value} {ts : List Try}, DatAll fz vs (ts.map tryD) → ∃ fs : List Value, fs.length = ts.length ∧ KatTups h vs fs ∧ ∀ v ∈ fs, ∃ i t, v = .int i t
  | [], [], _ => ⟨[], rfl, trivial, fun _ hv => by cases hv⟩
  | v :: vs, t :: ts, .cons h1 h2 => by
    obtain ⟨fs, l, k, hv⟩ := tups_of N hs h2
    obtain ⟨a, x, y, z, u, n, rfl, hm⟩ := try_of h1
    refine ⟨.int t.1.1 x :: fs, by simp [l], KatTups.cons (N _ (hs _ hm)).1 rfl rfl rfl k, fun v' hv' => ?_⟩
    rcases List.mem_cons.mp hv' with rfl | q
    · exact ⟨_, _, rfl⟩
    · exact hv v' q
theorem datall_pick {fz : List (Addr × Obj)} {vs : List Value} {ts : List Try} (h : DatAll fz vs (ts.map tryD)) : ∀ {is : List Nat}, (∀ i ∈ is, i < ts.length) → DatAll fz (is.map fun i => vs.getD i Value.none) ((is.map fun i => ts.getD i default).map tryD)
  | [], _ => .nil
  | i :: r, hi => .cons (datall_getD h (hi i (.head _))) (datall_pick h fun j hj => hi j (.tail _ hj))
section
variable {prog : Program} {w : World} {A : Around} {E : Value → Shared → Prop} {s : Shared} {h₀ : Heap} {L : Addr} {m : Str → Option Value} {news : List (Addr × Obj)}
theorem key_lt {x y : Addr} {ox oy : Obj} {a b : Try} {x1 x2 x3 x4 y1 y2 y3 y4 : Tok} {n k : Nat} {Q : Bool → Shared → Prop} (hne : a.1 ≠ b.1)
    (hx : s.heap.get? x = some ({ cls := .type "tuple", data := .seq #[.int a.1.1 x1, .int a.1.2.1 x2, .int a.1.2.2 x3, .str a.2 x4] n } : Obj))
    (hy : s.heap.get? y = some ({ cls := .type "tuple", data := .seq #[.int b.1.1 y1, .int b.1.2.1 y2, .int b.1.2.2 y3, .str b.2 y4] k } : Obj))
    (h : Q (triLt a.1 b.1) s) : wpAny (model prog w) A (keyLt' (tuples' true) (.ref x) (.ref y)) Q E s := by
  refine kat_lt hx rfl hy rfl ?_
  unfold triLt at h
  refine kat_cons (wpAny_eqBool_int ?_)
  by_cases e1 : a.1.1 = b.1.1
  · rw [show (a.1.1 == b.1.1) = true by simp [e1]]
    rw [if_pos e1] at h
    refine kat_yes (kat_cons (wpAny_eqBool_int ?_))
    by_cases e2 : a.1.2.1 = b.1.2.1
    · rw [show (a.1.2.1 == b.1.2.1) = true by simp [e2]]
      rw [if_pos e2] at h
      refine kat_yes (kat_cons (wpAny_eqBool_int ?_))
      by_cases e3 : a.1.2.2 = b.1.2.2
      · exact absurd (Prod.ext e1 (Prod.ext e2 e3)) hne
      · rw [show (a.1.2.2 == b.1.2.2) = false from beq_eq_false_iff_ne.mpr e3]
        exact kat_no (kat_one _ _ (wpAny_lt_int h))
    · rw [show (a.1.2.1 == b.1.2.1) = false from beq_eq_false_iff_ne.mpr e2]
      rw [if_neg e2] at h
      exact kat_no (kat_one _ _ (wpAny_lt_int h))
  · rw [show (a.1.1 == b.1.1) = false from beq_eq_false_iff_ne.mpr e1]
    rw [if_neg e1] at h
    exact kat_no (oneLt_int h)
theorem sorted_ok {l : Addr} {n : Nat} {vs : List Value} {ts : List Try} {fz : List (Addr × Obj)} {Q : Value → Shared → Prop} (F : Fr h₀ L s.heap m) (N : News h₀ L s.heap news) (hm : (l, listOf vs.toArray n) ∈ news) (hs : ∀ p ∈ fz, p ∈ news) (hD : DatAll fz vs (ts.map tryD))
    (hnd : (ts.map (·.1)).Nodup) (h2 : 2 ≤ ts.length) (h64 : ts.length < 64)
    (h : ∀ D out c (us : List Try) h', Fr h₀ L h' m → News h₀ L h' ((D, listOf (List.toArray out) c) :: news) → DatAll fz out (us.map tryD) → us.Perm ts → us.Pairwise (fun a b => triLt a.1 b.1 = true) → (∀ q ∈ news, q.1 < D) → Q (.ref D) { s with heap := h' }) :
    wpAny (model prog w) A (call (.builtin "sorted") [.ref l]) Q E s := by
  have hlen : vs.length = ts.length := by have := hD.length; simpa using this
  refine kat_sorted F N ⟨_, (N _ hm).1, rfl, n, rfl⟩ (by omega) (by omega) fun D e1 h' F' N' lt => ?_
  have hs' : ∀ p ∈ fz, p ∈ (D, seqObj "list" #[] e1) :: news := fun p hp => .tail _ (hs p hp)
  obtain ⟨fs, fl, fk, fi⟩ := tups_of N' hs' hD
  refine kat_kind fk (by omega) (T := .type "int") (fun v hv => ?_) rfl ?_
  · obtain ⟨i, t, rfl⟩ := fi v hv
    exact Looks.of_pure rfl
  rw [hlen]
  refine sat_wp (lt := fun i j => triLt (ts.getD i default).1 (ts.getD j default).1) (n := ts.length) ?_ ?_ (sort_sat (triLt_sto hnd) (by omega))
  · intro i j C hi hj hij hC
    unfold kas_ask
    have d1 := datall_getD hD hi
    have d2 := datall_getD hD hj
    have hne : (ts.getD i default).1 ≠ (ts.getD j default).1 := by
      intro e
      have := (List.getElem_inj (xs := ts.map (·.1)) (i := i) (j := j) (h₀ := by simpa using hi) (h₁ := by simpa using hj) hnd).mp (by simpa [List.getD_eq_getElem?_getD, hi, hj] using e)
      exact hij this
    generalize vs.getD i Value.none = v1 at d1 ⊢
    generalize vs.getD j Value.none = v2 at d2 ⊢
    generalize ts.getD i default = a at d1 hne hC
    generalize ts.getD j default = b at d2 hne hC
    obtain ⟨p, _, _, _, _, _, rfl, hp⟩ := try_of d1
    obtain ⟨q, _, _, _, _, _, rfl, hq⟩ := try_of d2
    exact key_lt (ox := default) (oy := default) hne (N' _ (hs' _ hp)).1 (N' _ (hs' _ hq)).1 hC
  · rintro p ⟨ok, asc⟩
    refine KasFin.intro F' N' (g := fun o => (D, o) :: news) ?_ fun h2 c F2 N2 => ?_
    · exact .head fun q hq => Nat.ne_of_lt (lt q hq)
    · refine h D _ c (p.toList.map fun i => ts.getD i default) h2 F2 N2 ?_ ?_ ?_ lt
      · exact datall_pick hD fun i hi => List.mem_range.mp (ok.mem_iff.mp hi)
      · have e : ts = (List.range ts.length).map fun i => ts.getD i default := by
          apply List.ext_getElem
          · simp
          · intro i h1 h2
            simp [List.getD_eq_getElem?_getD, h1]
        exact (ok.map _).trans (e ▸ List.Perm.refl _)
      · rw [List.pairwise_iff_getElem]
        intro i j hi hj hij
        have hsz := ok.size
        simp only [List.length_map, Array.length_toList] at hi hj
        have := asc i j hij (by omega)
        rw [gA_eq hi, gA_eq hj] at this
        simpa using this
end
end Mine
end PartW2
section PartB7
open PySem PySem.W PyProof.Rows
set_option maxRecDepth 100000
set_option Elab.async false
namespace Mine
section
variable {prog : Program} {w : World} {A : Around} {E : Value → Shared → Prop} {s : Shared} {env : Env} {h₀ : Heap} {x : Str} {body : List Stmt} {Q : Flow → Shared → Prop}
theorem for_tup {σ : Type} {l : Addr} {vs : List Value} {nn : Nat} {m₀ : Str → Option Value} {elts : List Expr} {x1 : _} {tpos : Pos} (Led : σ → List (Addr × Obj)) (ps : σ → List (Str × Value)) (Inv : Nat → σ → Prop) (c₀ : σ)
    (hh : A.handled = none) (hl : ∀ c, (l, listOf vs.toArray nn) ∈ Led c) (F : Fr h₀ env.locals s.heap m₀) (N : News h₀ env.locals s.heap (Led c₀)) (hk : ∀ p ∈ ps c₀, m₀ p.1 = some p.2) (h0 : Inv 0 c₀) (hv : ∀ v ∈ vs, ∃ T, v = .ref T)
    (turn : ∀ i v c (u : Str → Option Value) h tk own, vs[i]? = some v → OwnOff own ((Led c).map (·.1)) → Inv i c → Fr h₀ env.locals h (kstB u (ps c)) → News h₀ env.locals h (Led c ++ own) →
      wpAny (model prog w) A (assign (.Tuple elts x1 tpos) env v) (fun _ s₂ => wpAny (model prog w) A (execs body env) (FPost h₀ env.locals s Led ps (Inv (i + 1)) own Q) E s₂) E { s with heap := h, toks := tk })
    (done : ∀ c (u : Str → Option Value) h tk, Inv vs.length c → Fr h₀ env.locals h (kstB u (ps c)) → News h₀ env.locals h (Led c) → Q .next { s with heap := h, toks := tk })
    (hE : PassesOwn (model prog w) A env E) :
    wpAny (model prog w) A (pyIter (.ref l)) (fun it s₂ => codeAny (model prog w) A (.forLoop (.Tuple elts x1 tpos) it body [] env) (fun r s' => match r with | .ok f => Q f s' | .error e => cameBackBy (model prog w) A env E e s') s₂) E s := by
  have hol : s.heap.get? l = some (listOf vs.toArray nn) := (N _ (hl c₀)).1
  have hls : s.heap.IsList l vs.toArray := ⟨_, hol, rfl, nn, rfl⟩
  have hne : l ≠ s.heap.objs.size := Nat.ne_of_lt (Heap.lt_size hol)
  refine wpAny_pyIter_list hls ?_
  have W := Walks.list (prog := prog) (w := w) hh s.heap.objs.size l hne vs.toArray
  have hlen : vs.toArray.size = vs.length := by simp
  rw [hlen] at W
  have hI0 : h₀.get? s.heap.objs.size = none := next_is_new F
  have hLI : env.locals ≠ s.heap.objs.size := Nat.ne_of_lt F.ns.lt
  refine codeAny_forLoop_any
    (fun k s' => ∃ h' tk i c m', s' = { s with heap := h', toks := tk } ∧ (h'.IsListIter s.heap.objs.size l i ∧ h'.IsList l vs.toArray) ∧ Fr h₀ env.locals h' m' ∧ (∀ p ∈ ps c, m' p.1 = some p.2) ∧ News h₀ env.locals h' (Led c) ∧ (∀ p ∈ Led c, p.1 ≠ s.heap.objs.size) ∧ Inv i c ∧ i ≤ vs.length ∧ k = vs.length + 1 - i) ?_ (vs.length + 1)
    ⟨_, _, 0, c₀, m₀, rfl, ⟨⟨_, Heap.get?_push_size _ rfl, rfl, rfl⟩, hls.at fun o e => Heap.get?_push_of_some _ e⟩, F.push _, hk, (fun p hp => ⟨Heap.get?_push_of_some _ (N p hp).1, (N p hp).2⟩), (fun p hp => Nat.ne_of_lt (Heap.lt_size (N p hp).1)), h0, Nat.zero_le _, rfl⟩
  rintro k s' ⟨h', tk, i, c, m', rfl, hst', F', hk', N', hn', hJ, hi, rfl⟩
  have next : ∀ h₁ : Heap, (∀ b o, b ∉ [s.heap.objs.size] → h'.get? b = some o → h₁.get? b = some o) → Fr h₀ env.locals h₁ m' ∧ News h₀ env.locals h₁ (Led c) := fun h₁ hk₁ =>
    ⟨⟨F'.ns.at' fun o e => hk₁ _ o (fun q => hLI (List.mem_singleton.mp q)) e, fun b o e => hk₁ b o (fun q => by rw [List.mem_singleton.mp q, hI0] at e; cases e) (F'.keep b o e), F'.above⟩, fun p hp => ⟨hk₁ _ _ (fun q => hn' p hp (List.mem_singleton.mp q)) (N' p hp).1, (N' p hp).2⟩⟩
  by_cases hlt : i < vs.length
  · refine W.item i _ _ _ hlt hst' fun v h₁ tk₁ hP hst₁ hk₁ => ?_
    obtain ⟨F₁, N₁⟩ := next h₁ hk₁
    have hP' : vs[i]? = some v := by simpa using hP
    obtain ⟨T, rfl⟩ := hv v (List.mem_of_getElem? hP')
    refine wpAny_letOwnedTupleGo_listiter hst₁.1 ?_
    obtain ⟨⟨oI, hoI, hoI2⟩, hls₁⟩ := hst₁
    have hoff : OwnOff [(s.heap.objs.size, oI)] ((Led c).map (·.1)) := by
      intro p hp b hb e
      obtain ⟨q, hq, rfl⟩ := List.mem_map.mp hb
      rw [List.mem_singleton.mp hp] at e
      exact hn' q hq e.symm
    refine wpAny_mono (turn i (.ref T) c m' h₁ tk₁ [(s.heap.objs.size, oI)] hP' hoff hJ (fr_k F₁ hk') ?_) (fun _ s₂ h₂ => wpAny_passesOwn hE (wpAny_mono h₂ (fun f s₃ h₃ => ?_) fun _ _ e => e)) hE
    · intro p hp
      rcases List.mem_append.mp hp with hp | hp
      · exact N₁ p hp
      · rw [List.mem_singleton.mp hp]; exact ⟨hoI, hLI.symm, hI0⟩
    have up : FEnd h₀ env.locals s Led ps (Inv (i + 1)) [(s.heap.objs.size, oI)] s₃ → ∃ m < vs.length + 1 - i, ∃ h' tk i c m', s₃ = { s with heap := h', toks := tk } ∧ (h'.IsListIter s.heap.objs.size l i ∧ h'.IsList l vs.toArray) ∧ Fr h₀ env.locals h' m' ∧ (∀ p ∈ ps c, m' p.1 = some p.2) ∧ News h₀ env.locals h' (Led c) ∧ (∀ p ∈ Led c, p.1 ≠ s.heap.objs.size) ∧ Inv i c ∧ i ≤ vs.length ∧ m = vs.length + 1 - i := by
      rintro ⟨c', h₂, tk₂, m₂, rfl, F₂, N₂, ho₂, hk₂, hp₂⟩
      refine ⟨vs.length + 1 - (i + 1), by omega, h₂, tk₂, i + 1, c', m₂, rfl, ⟨⟨oI, ?_, hoI2⟩, ⟨_, (N₂ _ (List.mem_append.mpr (.inl (hl c')))).1, rfl, nn, rfl⟩⟩, F₂, hk₂, fun p hp => N₂ p (List.mem_append.mpr (.inl hp)), ?_, hp₂, hlt, rfl⟩
      · exact (N₂ (s.heap.objs.size, oI) (List.mem_append.mpr (.inr (.head _)))).1
      · intro p hp e
        exact ho₂ (s.heap.objs.size, oI) (.head _) p.1 (List.mem_map.mpr ⟨p, hp, rfl⟩) e.symm
    cases f with
    | ret v => exact h₃
    | brk => exact h₃
    | next => exact up h₃
    | cont => exact up h₃
  · have hin : i = vs.length := by omega
    subst hin
    refine W.done _ _ _ hst' fun h₁ tk₁ hk₁ => wpAny_execs_nil ?_
    obtain ⟨F₁, N₁⟩ := next h₁ hk₁
    exact done c m' h₁ tk₁ hJ (fr_k F₁ hk') N₁
end
end Mine
end PartB7
section PartW3
open PySem PySem.W PyProof.Rows
set_option maxRecDepth 100000
set_option Elab.async false
namespace Mine
def triesAt (k : Nat) (x : Int) : List Try :=
  if kindW x = 3 then [((-(x.fmod 10), (k : Int), 0), badMsg)]
  else ((-(x.fmod 10), (k : Int), 0), nameOf (langOf x) (encOf x)) :: (if encOf x = none then [] else [((3 - x.fmod 10, (k : Int), 1), nameOf (langOf x) none)])
def triesL : Nat → List Int → List Try
  | _, [] => []
  | k, x :: r => triesAt k x ++ triesL (k + 1) r
theorem triesL_snoc {x : Int} : ∀ (xs : List Int) (k : Nat), triesL k (xs ++ [x]) = triesL k xs ++ triesAt (k + xs.length) x
  | [], k => by simp [triesL]
  | y :: r, k => by
    show triesAt k y ++ triesL (k + 1) (r ++ [x]) = (triesAt k y ++ triesL (k + 1) r) ++ _
    rw [triesL_snoc r (k + 1), List.append_assoc, List.length_cons]
    have : k + 1 + r.length = k + (r.length + 1) := by omega
    rw [this]
theorem triesL_take {xs : List Int} {i : Nat} {x : Int} (h : xs[i]? = some x) : triesL 0 (xs.take (i + 1)) = triesL 0 (xs.take i) ++ triesAt i x := by
  obtain ⟨hi, e⟩ := List.getElem?_eq_some_iff.mp h
  rw [List.take_succ_eq_append_getElem hi, triesL_snoc, e, List.length_take, Nat.zero_add, Nat.min_eq_left (by omega)]
theorem triesAt_len (k : Nat) (x : Int) : 1 ≤ (triesAt k x).length ∧ (triesAt k x).length ≤ 2 := by
  unfold triesAt
  split
  · exact ⟨Nat.le_refl _, Nat.le_succ 1⟩
  · split <;> exact ⟨by simp, by simp⟩
theorem triesL_len : ∀ (xs : List Int) (k : Nat), xs.length ≤ (triesL k xs).length ∧ (triesL k xs).length ≤ 2 * xs.length
  | [], k => by simp [triesL]
  | x :: r, k => by
    have h1 := triesAt_len k x
    have h2 := triesL_len r (k + 1)
    simp only [triesL, List.length_append, List.length_cons]
    omega
theorem triesAt_key {k : Nat} {x : Int} {t : Try} (h : t ∈ triesAt k x) : t.1.2.1 = (k : Int) := by
  unfold triesAt at h
  split at h
  · rw [List.mem_singleton.mp h]
  · rcases List.mem_cons.mp h with rfl | h
    · rfl
    · split at h
      · cases h
      · rw [List.mem_singleton.mp h]
theorem triesL_key : ∀ {xs : List Int} {k : Nat} {t : Try}, t ∈ triesL k xs → (k : Int) ≤ t.1.2.1
  | [], _, _, h => by cases h
  | x :: r, k, t, h => by
    rcases List.mem_append.mp h with h | h
    · rw [triesAt_key h]; exact Int.le_refl _
    · have := triesL_key h; omega
theorem triesAt_nodup (k : Nat) (x : Int) : ((triesAt k x).map (·.1)).Nodup := by
  unfold triesAt
  split
  · simp
  · split
    · simp
    · simp
theorem triesL_nodup : ∀ (xs : List Int) (k : Nat), ((triesL k xs).map (·.1)).Nodup
  | [], _ => by simp [triesL]
  | x :: r, k => by
    show ((triesAt k x ++ triesL (k + 1) r).map (·.1)).Nodup
    rw [List.map_append, List.nodup_append]
    refine ⟨triesAt_nodup k x, triesL_nodup r (k + 1), ?_⟩
    intro a ha b hb e
    obtain ⟨t, ht, rfl⟩ := List.mem_map.mp ha
    obtain ⟨u, hu, rfl⟩ := List.mem_map.mp hb
    have h1 := triesAt_key ht
    have h2 := triesL_key hu
    rw [← e, h1] at h2
    omega
def logD (t : Try) : Dat := .tuple [triD t.1, .str t.2]
def walkLog (zs : List Str) : List Try → List Dat
  | [] => [.str (Str.ofString "C")]
  | t :: r => logD t :: (if t.2 ∈ zs then [] else walkLog zs r)
def walkOn (zs : List Str) (ts : List Try) : Prop := ∀ t ∈ ts, t.2 ∉ zs
theorem walkLog_on {zs : List Str} : ∀ {ts us : List Try}, walkOn zs ts → walkLog zs (ts ++ us) = ts.map logD ++ walkLog zs us
  | [], _, _ => rfl
  | t :: r, us, h => by
    show logD t :: (if t.2 ∈ zs then [] else walkLog zs (r ++ us)) = _
    rw [if_neg (h t (.head _)), walkLog_on fun u hu => h u (.tail _ hu)]
    rfl
theorem walkLog_end {zs : List Str} {ts us : List Try} {t : Try} (h : walkOn zs ts) (ht : t.2 ∈ zs) : walkLog zs (ts ++ t :: us) = (ts ++ [t]).map logD := by
  rw [walkLog_on h]
  show ts.map logD ++ logD t :: (if t.2 ∈ zs then [] else walkLog zs us) = _
  rw [if_pos ht]; simp
end Mine
end PartW3
section PartB8
open PySem PySem.W PyProof.Rows
set_option maxRecDepth 100000
set_option Elab.async false
namespace Mine
def PairAt (news : List (Addr × Obj)) (a : Addr) (v1 v2 : Value) : Prop := (∃ n, (a, listOf [v1, v2].toArray n) ∈ news) ∨ ∃ n, (a, ({ cls := .type "tuple", data := .seq [v1, v2].toArray n } : Obj)) ∈ news
theorem PairAt.mono {n1 n2 : List (Addr × Obj)} {a : Addr} {v1 v2 : Value} (h : PairAt n1 a v1 v2) (hs : ∀ p ∈ n1, p ∈ n2) : PairAt n2 a v1 v2 :=
  h.elim (fun ⟨n, q⟩ => .inl ⟨n, hs _ q⟩) fun ⟨n, q⟩ => .inr ⟨n, hs _ q⟩
theorem opt_flat {news : List (Addr × Obj)} {v : Value} {o : Option Str} (h : DatIn news v (optD o)) : DatIn [] v (optD o) := by
  cases o with
  | none => cases h; exact .none
  | some x => cases h; exact .str _ _
theorem pair_of {news : List (Addr × Obj)} {v : Value} {x : Int} (h : DatIn news v (pairOf x)) (hk : kindW x ≠ 3) :
    ∃ a v1 v2, v = .ref a ∧ PairAt news a v1 v2 ∧ DatIn [] v1 (optD (langOf x)) ∧ DatIn [] v2 (optD (encOf x)) := by
  unfold pairOf at h
  rw [if_neg hk] at h
  by_cases h1 : kindW x = 1
  · rw [if_pos h1] at h
    cases h with
    | list hm r =>
      cases r with
      | cons a1 r =>
        cases r with
        | cons a2 r => cases r; exact ⟨_, _, _, rfl, .inl ⟨_, hm⟩, opt_flat a1, opt_flat a2⟩
  · rw [if_neg h1] at h
    cases h with
    | tuple hm r =>
      cases r with
      | cons a1 r =>
        cases r with
        | cons a2 r => cases r; exact ⟨_, _, _, rfl, .inr ⟨_, hm⟩, opt_flat a1, opt_flat a2⟩
section
variable {prog : Program} {w : World} {A : Around} {E : Value → Shared → Prop} {s : Shared} {h₀ : Heap} {L D : Addr} {m : Str → Option Value} {news rest : List (Addr × Obj)} {n : Nat} {vs : List Value}
theorem tup_item {value slice : PySem.Expr} {k : Int} {u : Tok} {Q : Value → Shared → Prop} (N : News h₀ L s.heap news) (hm : (D, ({ cls := .type "tuple", data := .seq vs.toArray n } : Obj)) ∈ news) (h0 : 0 ≤ k) (h1 : k < (vs.length : Int)) (h64 : vs.length ≤ 100) (h : Q (vs.getD k.toNat .none) s)
    (hs : subscripted slice false (.ref D) (.int k u) = operate [.ref D, .int k u] (getItem (.ref D) (.int k u)) := by with_unfolding_all rfl) :
    wpAny (model prog w) A (subscriptTail value slice (.ref D) (.int k u)) Q E s := by
  have hl : IsTup s.heap D vs.toArray := ⟨_, (N _ hm).1, rfl, n, rfl⟩
  have hk : k.toNat < vs.length := by omega
  exact tail_any hl.typeIs slot_tuple_getitem.lookup (getItem_tuple hl (by omega) (by omega) (seqIndex_of h0 (by simpa using h1)) (by simp [hk]) h) hs
theorem pair_item {value slice : PySem.Expr} {k : Int} {u : Tok} {v1 v2 : Value} {Q : Value → Shared → Prop} (N : News h₀ L s.heap news) (hm : PairAt news D v1 v2) (h0 : 0 ≤ k) (h1 : k < 2) (h : Q ([v1, v2].getD k.toNat .none) s)
    (hs : subscripted slice false (.ref D) (.int k u) = operate [.ref D, .int k u] (getItem (.ref D) (.int k u)) := by with_unfolding_all rfl) :
    wpAny (model prog w) A (subscriptTail value slice (.ref D) (.int k u)) Q E s := by
  rcases hm with ⟨n, hm⟩ | ⟨n, hm⟩
  · exact menu_item N hm h0 (by simpa using h1) (by simp) h hs
  · exact tup_item N hm h0 (by simpa using h1) (by simp) h hs
theorem pair_item0 {value slice : PySem.Expr} {u : Tok} {v1 v2 : Value} {Q : Value → Shared → Prop} (N : News h₀ L s.heap news) (hm : PairAt news D v1 v2) (h : Q v1 s)
    (hs : subscripted slice false (.ref D) (.int 0 u) = operate [.ref D, .int 0 u] (getItem (.ref D) (.int 0 u)) := by with_unfolding_all rfl) :
    wpAny (model prog w) A (subscriptTail value slice (.ref D) (.int 0 u)) Q E s := pair_item N hm (by decide) (by decide) h hs
theorem pair_item1 {value slice : PySem.Expr} {u : Tok} {v1 v2 : Value} {Q : Value → Shared → Prop} (N : News h₀ L s.heap news) (hm : PairAt news D v1 v2) (h : Q v2 s)
    (hs : subscripted slice false (.ref D) (.int 1 u) = operate [.ref D, .int 1 u] (getItem (.ref D) (.int 1 u)) := by with_unfolding_all rfl) :
    wpAny (model prog w) A (subscriptTail value slice (.ref D) (.int 1 u)) Q E s := pair_item N hm (by decide) (by decide) h hs
open Classical in
theorem isIn_str {tl : Addr} {tvs : List Value} {tn : Nat} {zs : List Str} {nm : Str} {tt : Tok} {Q : Value → Shared → Prop} (N : News h₀ L s.heap news) (htl : (tl, listOf tvs.toArray tn) ∈ news) (hT : DatAll [] tvs (zs.map Dat.str)) (hz : ∀ z ∈ zs, kqdOk 8 (.str z) = true) (hn : kqdOk 8 (.str nm) = true) (hu : A.units + 64 < cLine)
    (h1 : nm ∈ zs → Q (.bool true) s) (h2 : nm ∉ zs → Q (.bool false) s) : wpAny (model prog w) A (compareOp .In (.str nm tt) (.ref tl)) Q E s := by
  have e : Dat.str nm ∈ zs.map Dat.str ↔ nm ∈ zs := by
    rw [List.mem_map]
    exact ⟨fun ⟨z, hz, q⟩ => by cases q; exact hz, fun q => ⟨nm, q, rfl⟩⟩
  refine kqd_isIn (n₂ := []) N htl rfl rfl hT (fun p hp => nomatch hp) (.str nm tt) (fun p hp => nomatch hp) (fun d hd => ?_) hn hu ?_
  · obtain ⟨z, hz', rfl⟩ := List.mem_map.mp hd
    exact hz z hz'
  · by_cases q : nm ∈ zs
    · rw [decide_eq_true (e.mpr q)]; exact h1 q
    · rw [decide_eq_false fun z => q (e.mp z)]; exact h2 q
open Classical in
theorem notIn_str {tl : Addr} {tvs : List Value} {tn : Nat} {zs : List Str} {nm : Str} {tt : Tok} {Q : Value → Shared → Prop} (N : News h₀ L s.heap news) (htl : (tl, listOf tvs.toArray tn) ∈ news) (hT : DatAll [] tvs (zs.map Dat.str)) (hz : ∀ z ∈ zs, kqdOk 8 (.str z) = true) (hn : kqdOk 8 (.str nm) = true) (hu : A.units + 64 < cLine)
    (h1 : nm ∈ zs → Q (.bool false) s) (h2 : nm ∉ zs → Q (.bool true) s) : wpAny (model prog w) A (compareOp .NotIn (.str nm tt) (.ref tl)) Q E s := by
  have e : Dat.str nm ∈ zs.map Dat.str ↔ nm ∈ zs := by
    rw [List.mem_map]
    exact ⟨fun ⟨z, hz, q⟩ => by cases q; exact hz, fun q => ⟨nm, q, rfl⟩⟩
  refine kqd_notIn (n₂ := []) N htl rfl rfl hT (fun p hp => nomatch hp) (.str nm tt) (fun p hp => nomatch hp) (fun d hd => ?_) hn hu ?_
  · obtain ⟨z, hz', rfl⟩ := List.mem_map.mp hd
    exact hz z hz'
  · by_cases q : nm ∈ zs
    · rw [decide_eq_true (e.mpr q)]; exact h1 q
    · rw [decide_eq_false fun z => q (e.mp z)]; exact h2 q
end
theorem name_ok {l e : Option Str} (hl : l ∈ langs) (he : e ∈ encs) : kqdOk 8 (.str (nameOf l e)) = true := by
  simp only [langs, encs, List.mem_cons, List.not_mem_nil, or_false] at hl he
  rcases hl with rfl | rfl | rfl | rfl <;> rcases he with rfl | rfl | rfl <;> kernel_rfl
theorem bad_ok : kqdOk 8 (.str badMsg) = true := by kernel_rfl
theorem langOf_mem (x : Int) : langOf x ∈ langs := by
  obtain ⟨h0, h1⟩ := fm_bounds (x.fdiv 10) (k := 4) (by decide)
  exact getD_mem (by show _ < 4; omega)
theorem encOf_mem (x : Int) : encOf x ∈ encs := by
  obtain ⟨h0, h1⟩ := fm_bounds (x.fdiv 40) (k := 3) (by decide)
  exact getD_mem (by show _ < 3; omega)
theorem triesAt_ok {k : Nat} {x : Int} {t : Try} (h : t ∈ triesAt k x) : kqdOk 8 (.str t.2) = true := by
  unfold triesAt at h
  split at h
  · rw [List.mem_singleton.mp h]; exact bad_ok
  · rcases List.mem_cons.mp h with rfl | h
    · exact name_ok (langOf_mem x) (encOf_mem x)
    · split at h
      · cases h
      · rw [List.mem_singleton.mp h]; exact name_ok (langOf_mem x) (.head _)
theorem triesL_ok : ∀ {xs : List Int} {k : Nat} {t : Try}, t ∈ triesL k xs → kqdOk 8 (.str t.2) = true
  | [], _, _, h => by cases h
  | x :: r, k, t, h => by
    rcases List.mem_append.mp h with h | h
    · exact triesAt_ok h
    · exact triesL_ok h
theorem split_at {α : Type} {us : List α} {i : Nat} {t : α} (h : us[i]? = some t) : us = us.take i ++ t :: us.drop (i + 1) := by
  obtain ⟨hi, e⟩ := List.getElem?_eq_some_iff.mp h
  rw [← e, ← List.drop_eq_getElem_cons hi, List.take_append_drop]
end Mine
end PartB8
section PartS11
open PySem PySem.W PyProof.Rows
set_option maxRecDepth 100000
set_option Elab.async false
namespace Mine
theorem fill11 (P : Params) : (fun (_ : OpenLaw) => nsIn (Mine.hd.heap_39 P) mainGlobals (Str.ofString "zz")) PySem.Challenge.rw_oy0031_01 = (fun (_ : OpenLaw) => nsIn (Mine.hd.heap_39 P) mainGlobals (Str.ofString "zz")) PySem.Challenge.rw_oy0031_01 := by
  k_fill
  rfl
section
variable {prog : Program} {w : World} {A : Around} {E : Value → Shared → Prop} {s : Shared} {h₀ : Heap} {L : Addr}
theorem lst_len {D : Addr} {vs : List Value} {n : Nat} {news : List (Addr × Obj)} {Q : Value → Shared → Prop} (N : News h₀ L s.heap news) (hm : (D, listOf vs.toArray n) ∈ news) (h64 : vs.length ≤ 64)
    (h : ∀ t tk, Q (.int (vs.length : Nat) t) { s with toks := tk }) : wpAny (model prog w) A (call (.builtin "len") [.ref D]) Q E s := by
  have hl : s.heap.IsList D vs.toArray := ⟨_, (N _ hm).1, rfl, n, rfl⟩
  refine len_list hl (by simp; omega) ?_
  have e : (vs.toArray.size : Int) = (vs.length : Nat) := by simp
  rw [e]
  exact h _ _
theorem for_range {σ : Type} {env : Env} {x : Str} {body : List Stmt} {Q : Flow → Shared → Prop} {r : Addr} {n : Nat} {t u v : Tok} {m₀ : Str → Option Value} (Led : σ → List (Addr × Obj)) (ps : σ → List (Str × Value)) (Inv : Nat → σ → Prop) (c₀ : σ)
    (hh : A.handled = none) (hr : IsRange s.heap r 0 (n : Int) 1 t u v) (hn : n ≤ 64) (F : Fr h₀ env.locals s.heap m₀) (N : News h₀ env.locals s.heap (Led c₀)) (hk : ∀ p ∈ ps c₀, m₀ p.1 = some p.2) (h0 : Inv 0 c₀)
    (turn : ∀ i tv c (u : Str → Option Value) h tk own, i < n → OwnOff own ((Led c).map (·.1)) → Inv i c → Fr h₀ env.locals h (kstB u ((x, .int (i : Nat) tv) :: ps c)) → News h₀ env.locals h (Led c ++ own) →
      wpAny (model prog w) A (execs body env) (FPost h₀ env.locals s Led ps (Inv (i + 1)) own Q) E { s with heap := h, toks := tk })
    (done : ∀ c (u : Str → Option Value) h tk, Inv n c → Fr h₀ env.locals h (kstB u (ps c)) → News h₀ env.locals h (Led c) → Q .next { s with heap := h, toks := tk }) :
    wpAny (model prog w) A (pyIter (.ref r)) (fun it s₂ => LoopAtV prog w A h₀ env x body Q E it s₂) E s := by
  have hsz : Builtin.Range.rangeSize 0 (n : Int) 1 = (n : Int) := by
    unfold Builtin.Range.rangeSize
    rw [if_pos (by omega)]
    split
    · rw [Int.ediv_one]; omega
    · omega
  have hf : Builtin.Range.rangeFitsLong (n : Int) = true := by unfold Builtin.Range.rangeFitsLong; simp; omega
  have hf2 : Builtin.Range.rangeFitsLong ((n : Int) + (1 - 1)) = true := by rw [show (n : Int) + (1 - 1) = n by omega]; exact hf
  refine wpAny_pyIter_range hr (by simp [Builtin.Range.small, hsz, hf, show Builtin.Range.rangeFitsLong 0 = true by decide, show Builtin.Range.rangeFitsLong 1 = true by decide]) ?_
  rw [hsz]
  have hLt : env.locals < s.heap.objs.size := F.ns.lt
  refine for_iter (s := { s with heap := s.heap.push { cls := .type "range_iterator", data := .fields #[rawInt 0, rawInt (n : Int), rawInt 1] } }) Led ps Inv c₀ (Walks.range hh s.heap.objs.size 0 1 n) (fun i h st => ⟨_, st⟩) (Nat.ne_of_lt hLt) (next_is_new F)
    (fun p hp => Nat.ne_of_lt (Heap.lt_size (N p hp).1)) ?_ (F.push _)
    (fun p hp => ⟨Heap.get?_push_of_some _ (N p hp).1, (N p hp).2⟩) hk h0 ?_ ?_
  · have := Heap.get?_push_size s.heap (o := { cls := .type "range_iterator", data := .fields #[rawInt 0, rawInt (n : Int), rawInt 1] }) rfl
    simpa [IsRangeIter] using this
  · rintro i v c u h tk own hi ⟨tv, rfl⟩ hoff hI F' N'
    have e : (0 : Int) + (i : Nat) * 1 = (i : Nat) := by omega
    rw [e] at F'
    exact turn i tv c u h tk own hi hoff hI F' N'
  · exact done
end
theorem wish_of {news : List (Addr × Obj)} {v : Value} {x : Int} (h : DatIn news v (wishOf x)) :
    ∃ a y pv n, v = .ref a ∧ (a, ({ cls := .type "tuple", data := .seq #[.int (x.fmod 10) y, pv, .bool (kindW x != 3)] n } : Obj)) ∈ news ∧ DatIn news pv (pairOf x) := by
  cases h with
  | tuple hm r =>
    cases r with
    | cons h1 r =>
      cases r with
      | cons h2 r =>
        cases r with
        | cons h3 r =>
          cases r; cases h1; cases h3
          exact ⟨_, _, _, _, rfl, hm, h2⟩
theorem wish_at {news : List (Addr × Obj)} {vs : List Value} {xs : List Int} (h : DatAll news vs (xs.map wishOf)) {i : Nat} {x : Int} (hx : xs[i]? = some x) : DatIn news (vs.getD i .none) (wishOf x) := by
  have := DatAll.getD' h i
  have e : (xs.map wishOf).getD i .none = wishOf x := by rw [List.getD_eq_getElem?_getD, List.getElem?_map, hx]; rfl
  rw [e] at this
  exact this
set_option maxHeartbeats 4000000 in
theorem told_ok {prog : Program} {w : World} {p : Program} {loose : List Str} {mean : ExcName → Option Value} {mg mb : Str → Option Value}
   {dp un : Nat} {gd : Option (List Code)} {cn : Str} {cs : Scope} {a : Addr} {ccd : Value} {cl : List (Str × Addr)} {outer : List Env} {A₀ : Around} {base h₀ : Heap} {L : Addr} {m : Str → Option Value} {s : Shared} {Q E : Value → Shared → Prop}
   (B : Below A₀ base outer h₀) (F : Fr h₀ L s.heap m) (X : (Mine.hd.heap_39 w.params).In h₀) (T : Top p loose mean mg mb h₀) (hk : cs.kind = .function) (hd : dp + 7 < recursionLimit) (hu : un + 192 < cLine)
   {news fw ft : List (Addr × Obj)} (N : News h₀ L s.heap news) {wl tl : Addr} {wvs tvs : List Value} {wn tn : Nat} {xs : List Int} {zs : List Str} (hwl : (wl, listOf wvs.toArray wn) ∈ news) (htl : (tl, listOf tvs.toArray tn) ∈ news) (hfw : ∀ p ∈ fw, p ∈ news)
   (hW : DatAll fw wvs (xs.map wishOf)) (hTh : DatAll [] tvs (zs.map Dat.str)) (h4 : 4 ≤ xs.length) (h12 : xs.length ≤ 12) (hz : ∀ z ∈ zs, kqdOk 8 (.str z) = true)
   (ret : ∀ h' tk' r new (us : List Try), Fr h₀ L h' m → News h₀ L h' (new ++ news) → us.Perm (triesL 0 xs) → us.Pairwise (fun a b => triLt a.1 b.1 = true) → DatIn new r (.list (walkLog zs us)) → Q r { s with heap := h', toks := tk' }) :
   wpAny (model prog w) (ktrTop dp un gd cn cs L a ccd cl outer) (call (.ref 89) [.ref wl, .ref tl]) Q E s := by
  refine wpAny_call ?_
  k_dflt ktr_enter
  generalize s.toks + List.length _ = tk0
  rename_i g L1 h1 FG F1 N1 B1 X1 T1
  replace F1 := fr_binds F1 (l := [((Str.ofString "there"), .ref tl), ((Str.ofString "wishes"), .ref wl)]) rfl
  repeat ((first | (with_reducible show wpAny _ _ _ _ _ _) | (with_reducible show ite _ _ _)); (fail_if_success (with_reducible show wpAny _ _ (exec (PySem.Stmt.While _ _ _ _) _) _ _ _)); (fail_if_success (with_reducible show wpAny _ _ (exec (PySem.Stmt.For _ _ _ _ _) _) _ _ _)); (fail_if_success (with_reducible show wpAny _ _ (pyIter _) _ _ _)); (fail_if_success (with_reducible show wpAny _ _ (subscriptTail _ _ _ _) _ _ _)); (fail_if_success (with_reducible show wpAny _ _ (call (Value.builtin "list.append") _) _ _ _)); (fail_if_success (with_reducible show wpAny _ _ (getMethod _ _ _) _ _ _)); (fail_if_success (with_reducible show wpAny _ _ (newList _) _ _ _)); (fail_if_success (with_reducible show wpAny _ _ (newTuple _) _ _ _)); walk1; (try dsimp only))
  rename Fr _ _ _ _ => F2
  rename News _ _ _ _ => N2
  refine lst_new F2 N2 ?_ (by rw [sizeLine_eq]; simp)
  intro lt h3 F3 N3 l3
  repeat ((first | (with_reducible show wpAny _ _ _ _ _ _) | (with_reducible show ite _ _ _)); (fail_if_success (with_reducible show wpAny _ _ (exec (PySem.Stmt.While _ _ _ _) _) _ _ _)); (fail_if_success (with_reducible show wpAny _ _ (exec (PySem.Stmt.For _ _ _ _ _) _) _ _ _)); (fail_if_success (with_reducible show wpAny _ _ (pyIter _) _ _ _)); (fail_if_success (with_reducible show wpAny _ _ (subscriptTail _ _ _ _) _ _ _)); (fail_if_success (with_reducible show wpAny _ _ (call (Value.builtin "list.append") _) _ _ _)); (fail_if_success (with_reducible show wpAny _ _ (getMethod _ _ _) _ _ _)); (fail_if_success (with_reducible show wpAny _ _ (newList _) _ _ _)); (fail_if_success (with_reducible show wpAny _ _ (newTuple _) _ _ _)); walk1; (try dsimp only))
  rename Fr _ _ _ _ => F6
  (with_unfolding_all refine' For_invVF F6 ?k1 ?k2 ?_; (case k1 => exact rfl); (case k2 => exact rfl))
  repeat ((first | (with_reducible show wpAny _ _ _ _ _ _) | (with_reducible show ite _ _ _)); (fail_if_success (with_reducible show wpAny _ _ (exec (PySem.Stmt.While _ _ _ _) _) _ _ _)); (fail_if_success (with_reducible show wpAny _ _ (exec (PySem.Stmt.For _ _ _ _ _) _) _ _ _)); (fail_if_success (with_reducible show wpAny _ _ (pyIter _) _ _ _)); (fail_if_success (with_reducible show wpAny _ _ (subscriptTail _ _ _ _) _ _ _)); (fail_if_success (with_reducible show wpAny _ _ (call (Value.builtin "list.append") _) _ _ _)); (fail_if_success (with_reducible show wpAny _ _ (getMethod _ _ _) _ _ _)); (fail_if_success (with_reducible show wpAny _ _ (newList _) _ _ _)); (fail_if_success (with_reducible show wpAny _ _ (newTuple _) _ _ _)); walk1; (try dsimp only))
  rename Fr _ _ _ _ => F7
  rename News _ _ _ _ => N7
  have hwlen : wvs.length = xs.length := by have := hW.length; simpa using this
  refine lst_len N7 (.tail _ hwl) (by omega) ?_
  intro t7 tk7
  repeat ((first | (with_reducible show wpAny _ _ _ _ _ _) | (with_reducible show ite _ _ _)); (fail_if_success (with_reducible show wpAny _ _ (exec (PySem.Stmt.While _ _ _ _) _) _ _ _)); (fail_if_success (with_reducible show wpAny _ _ (exec (PySem.Stmt.For _ _ _ _ _) _) _ _ _)); (fail_if_success (with_reducible show wpAny _ _ (pyIter _) _ _ _)); (fail_if_success (with_reducible show wpAny _ _ (subscriptTail _ _ _ _) _ _ _)); (fail_if_success (with_reducible show wpAny _ _ (call (Value.builtin "list.append") _) _ _ _)); (fail_if_success (with_reducible show wpAny _ _ (getMethod _ _ _) _ _ _)); (fail_if_success (with_reducible show wpAny _ _ (newList _) _ _ _)); (fail_if_success (with_reducible show wpAny _ _ (newTuple _) _ _ _)); walk1; (try dsimp only))
  rename Fr _ _ _ _ => F8
  rename News _ _ _ _ => N8
  rename IsRange _ _ _ _ _ _ _ _ => hrg
  have hnl : ∀ p ∈ news, p.1 ≠ lt := fun p hp => Nat.ne_of_lt (l3 p hp)
  have hwlt : wl ≠ lt := hnl _ hwl
  refine for_range (σ := List Value × Nat × List (Addr × Obj)) (fun c => (lt, listOf c.1.toArray c.2.1) :: (wl, listOf wvs.toArray wn) :: (c.2.2 ++ news)) (fun _ => [((Str.ofString "tries"), .ref lt), ((Str.ofString "there"), .ref tl), ((Str.ofString "wishes"), .ref wl)])
    (fun i c => DatAll c.2.2 c.1 ((triesL 0 (xs.take i)).map tryD) ∧ (∀ p ∈ c.2.2, p.1 ≠ lt)) ([], 0, []) rfl hrg (by omega) F8 ?_ (by kst_all) ⟨.nil, fun p hp => nomatch hp⟩ ?_ ?_
  · exact news_sub N8 fun p hp => by
      simp only [List.mem_cons, List.nil_append] at hp ⊢
      rcases hp with rfl | rfl | hp
      · exact .inl rfl
      · exact .inr hwl
      · exact .inr hp
  · rintro i tv ⟨vs, n, fz⟩ u h tk own hi hoff ⟨hD, hn1⟩ F9 N9
    dsimp only at hoff hD hn1 F9 N9
    rw [hwlen] at hi
    obtain ⟨x, hx⟩ : ∃ x, xs[i]? = some x := ⟨xs[i], List.getElem?_eq_getElem hi⟩
    have hrest : ∀ p ∈ (wl, listOf wvs.toArray wn) :: (fz ++ news) ++ own, p.1 ≠ lt := by
      intro q hq
      rcases List.mem_append.mp hq with hq | hq
      · rcases List.mem_cons.mp hq with rfl | hq
        · exact hwlt
        · rcases List.mem_append.mp hq with hq | hq
          · exact hn1 q hq
          · exact hnl q hq
      · exact hoff q hq lt (.head _)
    repeat ((first | (with_reducible show wpAny _ _ _ _ _ _) | (with_reducible show ite _ _ _)); (fail_if_success (with_reducible show wpAny _ _ (exec (PySem.Stmt.While _ _ _ _) _) _ _ _)); (fail_if_success (with_reducible show wpAny _ _ (exec (PySem.Stmt.For _ _ _ _ _) _) _ _ _)); (fail_if_success (with_reducible show wpAny _ _ (pyIter _) _ _ _)); (fail_if_success (with_reducible show wpAny _ _ (subscriptTail _ _ _ _) _ _ _)); (fail_if_success (with_reducible show wpAny _ _ (call (Value.builtin "list.append") _) _ _ _)); (fail_if_success (with_reducible show wpAny _ _ (getMethod _ _ _) _ _ _)); (fail_if_success (with_reducible show wpAny _ _ (newList _) _ _ _)); (fail_if_success (with_reducible show wpAny _ _ (newTuple _) _ _ _)); walk1; (try dsimp only))
    refine menu_item N9 (.tail _ (.head _)) (by omega) (by omega) (by omega) ?_
    have hwx := wish_at hW hx
    rw [show ((i : Nat) : Int).toNat = i by omega]
    generalize wvs.getD i Value.none = wv at hwx ⊢
    obtain ⟨wa, wy, pv, wn2, rfl, hwa, hpv⟩ := wish_of hwx
    have hwa' := hfw _ hwa
    have N10 : News g L1 _ ((wa, _) :: ((lt, listOf vs.toArray n) :: (wl, listOf wvs.toArray wn) :: (fz ++ news) ++ own)) := news_sub N9 (b := (wa, _) :: ((lt, listOf vs.toArray n) :: (wl, listOf wvs.toArray wn) :: (fz ++ news) ++ own)) (fun p hp => (List.mem_cons.mp hp).elim (fun e => by rw [e]; exact .tail _ (.tail _ (List.mem_append.mpr (.inl (List.mem_append.mpr (.inr hwa')))))) id)
    clear N9
    have hmem : ∀ p ∈ fw, p ∈ (lt, listOf vs.toArray n) :: (wl, listOf wvs.toArray wn) :: (fz ++ news) ++ own := fun p hp => List.mem_append.mpr (.inl (.tail _ (.tail _ (List.mem_append.mpr (.inr (hfw p hp))))))
    have hmv : ∀ T oT (vs' : List Value) (n' : Nat), ∀ p ∈ fw, p ∈ (T, oT) :: (lt, listOf vs'.toArray n') :: ((wl, listOf wvs.toArray wn) :: (fz ++ news) ++ own) := fun T oT vs' n' p hp => .tail _ (.tail _ (.tail _ (List.mem_append.mpr (.inl (List.mem_append.mpr (.inr (hfw p hp)))))))
    have hlv : vs.length ≤ 2 * i := by
      have h1 := hD.length
      have h2 := (triesL_len (xs.take i) 0).2
      simp only [List.length_map, List.length_take] at h1 h2; omega
    repeat ((first | (with_reducible show wpAny _ _ _ _ _ _) | (with_reducible show ite _ _ _)); (fail_if_success (with_reducible show wpAny _ _ (exec (PySem.Stmt.While _ _ _ _) _) _ _ _)); (fail_if_success (with_reducible show wpAny _ _ (exec (PySem.Stmt.For _ _ _ _ _) _) _ _ _)); (fail_if_success (with_reducible show wpAny _ _ (pyIter _) _ _ _)); (fail_if_success (with_reducible show wpAny _ _ (subscriptTail _ _ _ _) _ _ _)); (fail_if_success (with_reducible show wpAny _ _ (call (Value.builtin "list.append") _) _ _ _)); (fail_if_success (with_reducible show wpAny _ _ (getMethod _ _ _) _ _ _)); (fail_if_success (with_reducible show wpAny _ _ (newList _) _ _ _)); (fail_if_success (with_reducible show wpAny _ _ (newTuple _) _ _ _)); walk1; (try dsimp only))
    · have hk3 : kindW x ≠ 3 := by first | assumption | (simp_all; done)
      obtain ⟨pa, v1, v2, rfl, hpa, dv1, dv2⟩ := pair_of hpv hk3
      have hpl := hpa
      replace hpa := hpa.mono hmem
      cases he : encOf x with
      | none =>
       rw [he] at dv2
       cases dv2
       repeat ((first | (with_reducible show wpAny _ _ _ _ _ _) | (with_reducible show ite _ _ _)); (fail_if_success (with_reducible show wpAny _ _ (exec (PySem.Stmt.While _ _ _ _) _) _ _ _)); (fail_if_success (with_reducible show wpAny _ _ (exec (PySem.Stmt.For _ _ _ _ _) _) _ _ _)); (fail_if_success (with_reducible show wpAny _ _ (pyIter _) _ _ _)); (fail_if_success (with_reducible show wpAny _ _ (subscriptTail _ _ _ _) _ _ _)); (fail_if_success (with_reducible show wpAny _ _ (call (Value.builtin "list.append") _) _ _ _)); (fail_if_success (with_reducible show wpAny _ _ (getMethod _ _ _) _ _ _)); (fail_if_success (with_reducible show wpAny _ _ (newList _) _ _ _)); (fail_if_success (with_reducible show wpAny _ _ (newTuple _) _ _ _)); walk1; (try dsimp only))
       rename Fr _ _ _ _ => Fp
       rename News _ _ _ _ => Np0
       have Np : News g L1 _ ((lt, listOf vs.toArray n) :: ((wl, listOf wvs.toArray wn) :: (fz ++ news) ++ own)) := news_sub Np0 fun p hp => .tail _ hp
       clear Np0
       refine listMethod_K (its := vs.toArray) (n := n) Np (.head _) PySem.F.slot_list_append PySem.F.type_list_append ?_
       repeat ((first | (with_reducible show wpAny _ _ _ _ _ _) | (with_reducible show ite _ _ _)); (fail_if_success (with_reducible show wpAny _ _ (exec (PySem.Stmt.While _ _ _ _) _) _ _ _)); (fail_if_success (with_reducible show wpAny _ _ (exec (PySem.Stmt.For _ _ _ _ _) _) _ _ _)); (fail_if_success (with_reducible show wpAny _ _ (pyIter _) _ _ _)); (fail_if_success (with_reducible show wpAny _ _ (subscriptTail _ _ _ _) _ _ _)); (fail_if_success (with_reducible show wpAny _ _ (call (Value.builtin "list.append") _) _ _ _)); (fail_if_success (with_reducible show wpAny _ _ (getMethod _ _ _) _ _ _)); (fail_if_success (with_reducible show wpAny _ _ (newList _) _ _ _)); (fail_if_success (with_reducible show wpAny _ _ (newTuple _) _ _ _)); walk1; (try dsimp only))
       refine pair_item0 Np hpa ?_
       repeat ((first | (with_reducible show wpAny _ _ _ _ _ _) | (with_reducible show ite _ _ _)); (fail_if_success (with_reducible show wpAny _ _ (exec (PySem.Stmt.While _ _ _ _) _) _ _ _)); (fail_if_success (with_reducible show wpAny _ _ (exec (PySem.Stmt.For _ _ _ _ _) _) _ _ _)); (fail_if_success (with_reducible show wpAny _ _ (pyIter _) _ _ _)); (fail_if_success (with_reducible show wpAny _ _ (subscriptTail _ _ _ _) _ _ _)); (fail_if_success (with_reducible show wpAny _ _ (call (Value.builtin "list.append") _) _ _ _)); (fail_if_success (with_reducible show wpAny _ _ (getMethod _ _ _) _ _ _)); (fail_if_success (with_reducible show wpAny _ _ (newList _) _ _ _)); (fail_if_success (with_reducible show wpAny _ _ (newTuple _) _ _ _)); walk1; (try dsimp only))
       refine pair_item1 Np hpa ?_
       repeat ((first | (with_reducible show wpAny _ _ _ _ _ _) | (with_reducible show ite _ _ _)); (fail_if_success (with_reducible show wpAny _ _ (exec (PySem.Stmt.While _ _ _ _) _) _ _ _)); (fail_if_success (with_reducible show wpAny _ _ (exec (PySem.Stmt.For _ _ _ _ _) _) _ _ _)); (fail_if_success (with_reducible show wpAny _ _ (pyIter _) _ _ _)); (fail_if_success (with_reducible show wpAny _ _ (subscriptTail _ _ _ _) _ _ _)); (fail_if_success (with_reducible show wpAny _ _ (call (Value.builtin "list.append") _) _ _ _)); (fail_if_success (with_reducible show wpAny _ _ (getMethod _ _ _) _ _ _)); (fail_if_success (with_reducible show wpAny _ _ (newList _) _ _ _)); (fail_if_success (with_reducible show wpAny _ _ (newTuple _) _ _ _)); walk1; (try dsimp only))
       refine ⟨X1.keeps Fp.keep, ?_⟩
       k_dflt (refine law_name_ok (l := langOf x) (e := none) B1 Fp X1 T1 rfl ?_ ?_ Np dv1 .none (short_lang x) ?_ ?_)
       · ktr_room
       · ktr_units
       · have z := short_enc x; rw [he] at z; exact z
       intro h15 tk15 t15 F15 N15
       repeat ((first | (with_reducible show wpAny _ _ _ _ _ _) | (with_reducible show ite _ _ _)); (fail_if_success (with_reducible show wpAny _ _ (exec (PySem.Stmt.While _ _ _ _) _) _ _ _)); (fail_if_success (with_reducible show wpAny _ _ (exec (PySem.Stmt.For _ _ _ _ _) _) _ _ _)); (fail_if_success (with_reducible show wpAny _ _ (pyIter _) _ _ _)); (fail_if_success (with_reducible show wpAny _ _ (subscriptTail _ _ _ _) _ _ _)); (fail_if_success (with_reducible show wpAny _ _ (call (Value.builtin "list.append") _) _ _ _)); (fail_if_success (with_reducible show wpAny _ _ (getMethod _ _ _) _ _ _)); (fail_if_success (with_reducible show wpAny _ _ (newList _) _ _ _)); (fail_if_success (with_reducible show wpAny _ _ (newTuple _) _ _ _)); walk1; (try dsimp only))
       refine tup_new F15 N15 ?_ (by rw [sizeLine_eq]; simp)
       intro T hT FT NT ltT
       repeat ((first | (with_reducible show wpAny _ _ _ _ _ _) | (with_reducible show ite _ _ _)); (fail_if_success (with_reducible show wpAny _ _ (exec (PySem.Stmt.While _ _ _ _) _) _ _ _)); (fail_if_success (with_reducible show wpAny _ _ (exec (PySem.Stmt.For _ _ _ _ _) _) _ _ _)); (fail_if_success (with_reducible show wpAny _ _ (pyIter _) _ _ _)); (fail_if_success (with_reducible show wpAny _ _ (subscriptTail _ _ _ _) _ _ _)); (fail_if_success (with_reducible show wpAny _ _ (call (Value.builtin "list.append") _) _ _ _)); (fail_if_success (with_reducible show wpAny _ _ (getMethod _ _ _) _ _ _)); (fail_if_success (with_reducible show wpAny _ _ (newList _) _ _ _)); (fail_if_success (with_reducible show wpAny _ _ (newTuple _) _ _ _)); walk1; (try dsimp only))
       obtain ⟨oT, hoT, NT'⟩ : ∃ oT, oT = ({ cls := .type "tuple", data := .seq _ } : Obj) ∧ News g L1 hT ((T, oT) :: ((lt, listOf vs.toArray n) :: ((wl, listOf wvs.toArray wn) :: (fz ++ news) ++ own))) := ⟨_, rfl, NT⟩
       refine append_K FT NT' (.tail (Nat.ne_of_gt (ltT (lt, listOf vs.toArray n) (.head _))) (Upd.head hrest)) ?_ (by rw [List.size_toArray, sizeLine_eq]; omega)
       intro h9 F9' N9'
       rw [List.push_toArray] at N9'
       clear NT
       repeat ((first | (with_reducible show wpAny _ _ _ _ _ _) | (with_reducible show ite _ _ _)); (fail_if_success (with_reducible show wpAny _ _ (exec (PySem.Stmt.While _ _ _ _) _) _ _ _)); (fail_if_success (with_reducible show wpAny _ _ (exec (PySem.Stmt.For _ _ _ _ _) _) _ _ _)); (fail_if_success (with_reducible show wpAny _ _ (pyIter _) _ _ _)); (fail_if_success (with_reducible show wpAny _ _ (subscriptTail _ _ _ _) _ _ _)); (fail_if_success (with_reducible show wpAny _ _ (call (Value.builtin "list.append") _) _ _ _)); (fail_if_success (with_reducible show wpAny _ _ (getMethod _ _ _) _ _ _)); (fail_if_success (with_reducible show wpAny _ _ (newList _) _ _ _)); (fail_if_success (with_reducible show wpAny _ _ (newTuple _) _ _ _)); walk1; (try dsimp only))
       refine pair_item1 N9' (hpl.mono (hmv T oT (vs ++ [Value.ref T]) (n + 1))) ?_
       repeat ((first | (with_reducible show wpAny _ _ _ _ _ _) | (with_reducible show ite _ _ _)); (fail_if_success (with_reducible show wpAny _ _ (exec (PySem.Stmt.While _ _ _ _) _) _ _ _)); (fail_if_success (with_reducible show wpAny _ _ (exec (PySem.Stmt.For _ _ _ _ _) _) _ _ _)); (fail_if_success (with_reducible show wpAny _ _ (pyIter _) _ _ _)); (fail_if_success (with_reducible show wpAny _ _ (subscriptTail _ _ _ _) _ _ _)); (fail_if_success (with_reducible show wpAny _ _ (call (Value.builtin "list.append") _) _ _ _)); (fail_if_success (with_reducible show wpAny _ _ (getMethod _ _ _) _ _ _)); (fail_if_success (with_reducible show wpAny _ _ (newList _) _ _ _)); (fail_if_success (with_reducible show wpAny _ _ (newTuple _) _ _ _)); walk1; (try dsimp only))
       refine f_end (vs ++ [Value.ref T], n + 1, [(T, oT)] ++ fz) F9' (news_sub N9' reo) ?_ (by kst_all) ⟨?_, ?_⟩
       · refine ownoff_new hoff fun q hq z hz => ?_
         rw [List.mem_singleton.mp hq]
         exact Nat.ne_of_lt (ltT z (.tail _ (List.mem_append.mpr (.inr hz))))
       · show DatAll ([(T, oT)] ++ fz) (vs ++ [Value.ref T]) _
         rw [triesL_take hx, List.map_append]
         unfold triesAt
         rw [if_neg hk3, if_pos he, he]
         refine (hD.mono fun q hq => List.mem_append.mpr (.inr hq)).append (.cons ?_ .nil)
         subst hoT
         exact .tuple (.head _) (.cons (.int _ _) (.cons (.int _ _) (.cons (.int _ _) (.cons (.str _ _) .nil))))
       · intro q hq
         rcases List.mem_append.mp hq with hq | hq
         · rw [List.mem_singleton.mp hq]
           exact Nat.ne_of_gt (ltT (lt, listOf vs.toArray n) (.head _))
         · exact hn1 q hq
      | some e =>
       rw [he] at dv2
       cases dv2
       repeat ((first | (with_reducible show wpAny _ _ _ _ _ _) | (with_reducible show ite _ _ _)); (fail_if_success (with_reducible show wpAny _ _ (exec (PySem.Stmt.While _ _ _ _) _) _ _ _)); (fail_if_success (with_reducible show wpAny _ _ (exec (PySem.Stmt.For _ _ _ _ _) _) _ _ _)); (fail_if_success (with_reducible show wpAny _ _ (pyIter _) _ _ _)); (fail_if_success (with_reducible show wpAny _ _ (subscriptTail _ _ _ _) _ _ _)); (fail_if_success (with_reducible show wpAny _ _ (call (Value.builtin "list.append") _) _ _ _)); (fail_if_success (with_reducible show wpAny _ _ (getMethod _ _ _) _ _ _)); (fail_if_success (with_reducible show wpAny _ _ (newList _) _ _ _)); (fail_if_success (with_reducible show wpAny _ _ (newTuple _) _ _ _)); walk1; (try dsimp only))
       rename Fr _ _ _ _ => Fp
       rename News _ _ _ _ => Np0
       have Np : News g L1 _ ((lt, listOf vs.toArray n) :: ((wl, listOf wvs.toArray wn) :: (fz ++ news) ++ own)) := news_sub Np0 fun p hp => .tail _ hp
       clear Np0
       refine listMethod_K (its := vs.toArray) (n := n) Np (.head _) PySem.F.slot_list_append PySem.F.type_list_append ?_
       repeat ((first | (with_reducible show wpAny _ _ _ _ _ _) | (with_reducible show ite _ _ _)); (fail_if_success (with_reducible show wpAny _ _ (exec (PySem.Stmt.While _ _ _ _) _) _ _ _)); (fail_if_success (with_reducible show wpAny _ _ (exec (PySem.Stmt.For _ _ _ _ _) _) _ _ _)); (fail_if_success (with_reducible show wpAny _ _ (pyIter _) _ _ _)); (fail_if_success (with_reducible show wpAny _ _ (subscriptTail _ _ _ _) _ _ _)); (fail_if_success (with_reducible show wpAny _ _ (call (Value.builtin "list.append") _) _ _ _)); (fail_if_success (with_reducible show wpAny _ _ (getMethod _ _ _) _ _ _)); (fail_if_success (with_reducible show wpAny _ _ (newList _) _ _ _)); (fail_if_success (with_reducible show wpAny _ _ (newTuple _) _ _ _)); walk1; (try dsimp only))
       refine pair_item0 Np hpa ?_
       repeat ((first | (with_reducible show wpAny _ _ _ _ _ _) | (with_reducible show ite _ _ _)); (fail_if_success (with_reducible show wpAny _ _ (exec (PySem.Stmt.While _ _ _ _) _) _ _ _)); (fail_if_success (with_reducible show wpAny _ _ (exec (PySem.Stmt.For _ _ _ _ _) _) _ _ _)); (fail_if_success (with_reducible show wpAny _ _ (pyIter _) _ _ _)); (fail_if_success (with_reducible show wpAny _ _ (subscriptTail _ _ _ _) _ _ _)); (fail_if_success (with_reducible show wpAny _ _ (call (Value.builtin "list.append") _) _ _ _)); (fail_if_success (with_reducible show wpAny _ _ (getMethod _ _ _) _ _ _)); (fail_if_success (with_reducible show wpAny _ _ (newList _) _ _ _)); (fail_if_success (with_reducible show wpAny _ _ (newTuple _) _ _ _)); walk1; (try dsimp only))
       refine pair_item1 Np hpa ?_
       repeat ((first | (with_reducible show wpAny _ _ _ _ _ _) | (with_reducible show ite _ _ _)); (fail_if_success (with_reducible show wpAny _ _ (exec (PySem.Stmt.While _ _ _ _) _) _ _ _)); (fail_if_success (with_reducible show wpAny _ _ (exec (PySem.Stmt.For _ _ _ _ _) _) _ _ _)); (fail_if_success (with_reducible show wpAny _ _ (pyIter _) _ _ _)); (fail_if_success (with_reducible show wpAny _ _ (subscriptTail _ _ _ _) _ _ _)); (fail_if_success (with_reducible show wpAny _ _ (call (Value.builtin "list.append") _) _ _ _)); (fail_if_success (with_reducible show wpAny _ _ (getMethod _ _ _) _ _ _)); (fail_if_success (with_reducible show wpAny _ _ (newList _) _ _ _)); (fail_if_success (with_reducible show wpAny _ _ (newTuple _) _ _ _)); walk1; (try dsimp only))
       refine ⟨X1.keeps Fp.keep, ?_⟩
       k_dflt (refine law_name_ok (l := langOf x) (e := some e) B1 Fp X1 T1 rfl ?_ ?_ Np dv1 (.str _ _) (short_lang x) ?_ ?_)
       · ktr_room
       · ktr_units
       · have z := short_enc x; rw [he] at z; exact z
       intro h15 tk15 t15 F15 N15
       repeat ((first | (with_reducible show wpAny _ _ _ _ _ _) | (with_reducible show ite _ _ _)); (fail_if_success (with_reducible show wpAny _ _ (exec (PySem.Stmt.While _ _ _ _) _) _ _ _)); (fail_if_success (with_reducible show wpAny _ _ (exec (PySem.Stmt.For _ _ _ _ _) _) _ _ _)); (fail_if_success (with_reducible show wpAny _ _ (pyIter _) _ _ _)); (fail_if_success (with_reducible show wpAny _ _ (subscriptTail _ _ _ _) _ _ _)); (fail_if_success (with_reducible show wpAny _ _ (call (Value.builtin "list.append") _) _ _ _)); (fail_if_success (with_reducible show wpAny _ _ (getMethod _ _ _) _ _ _)); (fail_if_success (with_reducible show wpAny _ _ (newList _) _ _ _)); (fail_if_success (with_reducible show wpAny _ _ (newTuple _) _ _ _)); walk1; (try dsimp only))
       refine tup_new F15 N15 ?_ (by rw [sizeLine_eq]; simp)
       intro T hT FT NT ltT
       repeat ((first | (with_reducible show wpAny _ _ _ _ _ _) | (with_reducible show ite _ _ _)); (fail_if_success (with_reducible show wpAny _ _ (exec (PySem.Stmt.While _ _ _ _) _) _ _ _)); (fail_if_success (with_reducible show wpAny _ _ (exec (PySem.Stmt.For _ _ _ _ _) _) _ _ _)); (fail_if_success (with_reducible show wpAny _ _ (pyIter _) _ _ _)); (fail_if_success (with_reducible show wpAny _ _ (subscriptTail _ _ _ _) _ _ _)); (fail_if_success (with_reducible show wpAny _ _ (call (Value.builtin "list.append") _) _ _ _)); (fail_if_success (with_reducible show wpAny _ _ (getMethod _ _ _) _ _ _)); (fail_if_success (with_reducible show wpAny _ _ (newList _) _ _ _)); (fail_if_success (with_reducible show wpAny _ _ (newTuple _) _ _ _)); walk1; (try dsimp only))
       obtain ⟨oT, hoT, NT'⟩ : ∃ oT, oT = ({ cls := .type "tuple", data := .seq _ } : Obj) ∧ News g L1 hT ((T, oT) :: ((lt, listOf vs.toArray n) :: ((wl, listOf wvs.toArray wn) :: (fz ++ news) ++ own))) := ⟨_, rfl, NT⟩
       refine append_K FT NT' (.tail (Nat.ne_of_gt (ltT (lt, listOf vs.toArray n) (.head _))) (Upd.head hrest)) ?_ (by rw [List.size_toArray, sizeLine_eq]; omega)
       intro h9 F9' N9'
       rw [List.push_toArray] at N9'
       clear NT
       repeat ((first | (with_reducible show wpAny _ _ _ _ _ _) | (with_reducible show ite _ _ _)); (fail_if_success (with_reducible show wpAny _ _ (exec (PySem.Stmt.While _ _ _ _) _) _ _ _)); (fail_if_success (with_reducible show wpAny _ _ (exec (PySem.Stmt.For _ _ _ _ _) _) _ _ _)); (fail_if_success (with_reducible show wpAny _ _ (pyIter _) _ _ _)); (fail_if_success (with_reducible show wpAny _ _ (subscriptTail _ _ _ _) _ _ _)); (fail_if_success (with_reducible show wpAny _ _ (call (Value.builtin "list.append") _) _ _ _)); (fail_if_success (with_reducible show wpAny _ _ (getMethod _ _ _) _ _ _)); (fail_if_success (with_reducible show wpAny _ _ (newList _) _ _ _)); (fail_if_success (with_reducible show wpAny _ _ (newTuple _) _ _ _)); walk1; (try dsimp only))
       refine pair_item1 N9' (hpl.mono (hmv T oT (vs ++ [Value.ref T]) (n + 1))) ?_
       repeat ((first | (with_reducible show wpAny _ _ _ _ _ _) | (with_reducible show ite _ _ _)); (fail_if_success (with_reducible show wpAny _ _ (exec (PySem.Stmt.While _ _ _ _) _) _ _ _)); (fail_if_success (with_reducible show wpAny _ _ (exec (PySem.Stmt.For _ _ _ _ _) _) _ _ _)); (fail_if_success (with_reducible show wpAny _ _ (pyIter _) _ _ _)); (fail_if_success (with_reducible show wpAny _ _ (subscriptTail _ _ _ _) _ _ _)); (fail_if_success (with_reducible show wpAny _ _ (call (Value.builtin "list.append") _) _ _ _)); (fail_if_success (with_reducible show wpAny _ _ (getMethod _ _ _) _ _ _)); (fail_if_success (with_reducible show wpAny _ _ (newList _) _ _ _)); (fail_if_success (with_reducible show wpAny _ _ (newTuple _) _ _ _)); walk1; (try dsimp only))
       rename Fr _ _ _ _ => Fq
       rename News _ _ _ _ => Nq0
       have Nq : News g L1 _ ((T, oT) :: (lt, listOf (vs ++ [Value.ref T]).toArray (n + 1)) :: ((wl, listOf wvs.toArray wn) :: (fz ++ news) ++ own)) := Nq0
       clear Nq0
       refine listMethod_K (its := (vs ++ [Value.ref T]).toArray) (n := n + 1) Nq (.tail _ (.head _)) PySem.F.slot_list_append PySem.F.type_list_append ?_
       repeat ((first | (with_reducible show wpAny _ _ _ _ _ _) | (with_reducible show ite _ _ _)); (fail_if_success (with_reducible show wpAny _ _ (exec (PySem.Stmt.While _ _ _ _) _) _ _ _)); (fail_if_success (with_reducible show wpAny _ _ (exec (PySem.Stmt.For _ _ _ _ _) _) _ _ _)); (fail_if_success (with_reducible show wpAny _ _ (pyIter _) _ _ _)); (fail_if_success (with_reducible show wpAny _ _ (subscriptTail _ _ _ _) _ _ _)); (fail_if_success (with_reducible show wpAny _ _ (call (Value.builtin "list.append") _) _ _ _)); (fail_if_success (with_reducible show wpAny _ _ (getMethod _ _ _) _ _ _)); (fail_if_success (with_reducible show wpAny _ _ (newList _) _ _ _)); (fail_if_success (with_reducible show wpAny _ _ (newTuple _) _ _ _)); walk1; (try dsimp only))
       refine pair_item0 Nq (hpl.mono (hmv T oT (vs ++ [Value.ref T]) (n + 1))) ?_
       repeat ((first | (with_reducible show wpAny _ _ _ _ _ _) | (with_reducible show ite _ _ _)); (fail_if_success (with_reducible show wpAny _ _ (exec (PySem.Stmt.While _ _ _ _) _) _ _ _)); (fail_if_success (with_reducible show wpAny _ _ (exec (PySem.Stmt.For _ _ _ _ _) _) _ _ _)); (fail_if_success (with_reducible show wpAny _ _ (pyIter _) _ _ _)); (fail_if_success (with_reducible show wpAny _ _ (subscriptTail _ _ _ _) _ _ _)); (fail_if_success (with_reducible show wpAny _ _ (call (Value.builtin "list.append") _) _ _ _)); (fail_if_success (with_reducible show wpAny _ _ (getMethod _ _ _) _ _ _)); (fail_if_success (with_reducible show wpAny _ _ (newList _) _ _ _)); (fail_if_success (with_reducible show wpAny _ _ (newTuple _) _ _ _)); walk1; (try dsimp only))
       refine ⟨X1.keeps Fq.keep, ?_⟩
       k_dflt (refine law_name_ok (l := langOf x) (e := none) B1 Fq X1 T1 rfl ?_ ?_ Nq dv1 .none (short_lang x) short_none ?_)
       · ktr_room
       · ktr_units
       intro h25 tk25 t25 F25 N25
       repeat ((first | (with_reducible show wpAny _ _ _ _ _ _) | (with_reducible show ite _ _ _)); (fail_if_success (with_reducible show wpAny _ _ (exec (PySem.Stmt.While _ _ _ _) _) _ _ _)); (fail_if_success (with_reducible show wpAny _ _ (exec (PySem.Stmt.For _ _ _ _ _) _) _ _ _)); (fail_if_success (with_reducible show wpAny _ _ (pyIter _) _ _ _)); (fail_if_success (with_reducible show wpAny _ _ (subscriptTail _ _ _ _) _ _ _)); (fail_if_success (with_reducible show wpAny _ _ (call (Value.builtin "list.append") _) _ _ _)); (fail_if_success (with_reducible show wpAny _ _ (getMethod _ _ _) _ _ _)); (fail_if_success (with_reducible show wpAny _ _ (newList _) _ _ _)); (fail_if_success (with_reducible show wpAny _ _ (newTuple _) _ _ _)); walk1; (try dsimp only))
       refine tup_new F25 N25 ?_ (by rw [sizeLine_eq]; simp)
       intro T2 hT2 FT2 NT2 ltT2
       repeat ((first | (with_reducible show wpAny _ _ _ _ _ _) | (with_reducible show ite _ _ _)); (fail_if_success (with_reducible show wpAny _ _ (exec (PySem.Stmt.While _ _ _ _) _) _ _ _)); (fail_if_success (with_reducible show wpAny _ _ (exec (PySem.Stmt.For _ _ _ _ _) _) _ _ _)); (fail_if_success (with_reducible show wpAny _ _ (pyIter _) _ _ _)); (fail_if_success (with_reducible show wpAny _ _ (subscriptTail _ _ _ _) _ _ _)); (fail_if_success (with_reducible show wpAny _ _ (call (Value.builtin "list.append") _) _ _ _)); (fail_if_success (with_reducible show wpAny _ _ (getMethod _ _ _) _ _ _)); (fail_if_success (with_reducible show wpAny _ _ (newList _) _ _ _)); (fail_if_success (with_reducible show wpAny _ _ (newTuple _) _ _ _)); walk1; (try dsimp only))
       obtain ⟨oT2, hoT2, NT2'⟩ : ∃ oT2, oT2 = ({ cls := .type "tuple", data := .seq _ } : Obj) ∧ News g L1 hT2 ((T2, oT2) :: (T, oT) :: (lt, listOf (vs ++ [Value.ref T]).toArray (n + 1)) :: ((wl, listOf wvs.toArray wn) :: (fz ++ news) ++ own)) := ⟨_, rfl, NT2⟩
       have hTl : lt < T := ltT (lt, listOf vs.toArray n) (.head _)
       have hTl2 : lt < T2 := ltT2 (lt, listOf (vs ++ [Value.ref T]).toArray (n + 1)) (.tail _ (.head _))
       refine append_K FT2 NT2' (.tail (Nat.ne_of_gt hTl2) (.tail (Nat.ne_of_gt hTl) (Upd.head hrest))) ?_ (by rw [List.size_toArray, sizeLine_eq, List.length_append]; simp; omega)
       intro h29 F29 N29
       rw [List.push_toArray] at N29
       clear NT2
       repeat ((first | (with_reducible show wpAny _ _ _ _ _ _) | (with_reducible show ite _ _ _)); (fail_if_success (with_reducible show wpAny _ _ (exec (PySem.Stmt.While _ _ _ _) _) _ _ _)); (fail_if_success (with_reducible show wpAny _ _ (exec (PySem.Stmt.For _ _ _ _ _) _) _ _ _)); (fail_if_success (with_reducible show wpAny _ _ (pyIter _) _ _ _)); (fail_if_success (with_reducible show wpAny _ _ (subscriptTail _ _ _ _) _ _ _)); (fail_if_success (with_reducible show wpAny _ _ (call (Value.builtin "list.append") _) _ _ _)); (fail_if_success (with_reducible show wpAny _ _ (getMethod _ _ _) _ _ _)); (fail_if_success (with_reducible show wpAny _ _ (newList _) _ _ _)); (fail_if_success (with_reducible show wpAny _ _ (newTuple _) _ _ _)); walk1; (try dsimp only))
       refine f_end ((vs ++ [Value.ref T]) ++ [Value.ref T2], n + 1 + 1, [(T2, oT2), (T, oT)] ++ fz) F29 (news_sub N29 reo) ?_ (by kst_all) ⟨?_, ?_⟩
       · refine ownoff_new hoff fun q hq z hz => ?_
         simp only [List.mem_cons, List.not_mem_nil, or_false] at hq
         rcases hq with rfl | rfl
         · exact Nat.ne_of_lt (ltT2 z (.tail _ (.tail _ (List.mem_append.mpr (.inr hz)))))
         · exact Nat.ne_of_lt (ltT z (.tail _ (List.mem_append.mpr (.inr hz))))
       · show DatAll ([(T2, oT2), (T, oT)] ++ fz) ((vs ++ [Value.ref T]) ++ [Value.ref T2]) _
         rw [triesL_take hx, List.map_append]
         unfold triesAt
         rw [if_neg hk3, if_neg (by rw [he]; exact fun z => nomatch z), he, List.append_assoc]
         refine (hD.mono fun q hq => List.mem_append.mpr (.inr hq)).append (.cons ?_ (.cons ?_ .nil))
         · subst hoT
           exact .tuple (.tail _ (.head _)) (.cons (.int _ _) (.cons (.int _ _) (.cons (.int _ _) (.cons (.str _ _) .nil))))
         · subst hoT2
           exact .tuple (.head _) (.cons (.int _ _) (.cons (.int _ _) (.cons (.int _ _) (.cons (.str _ _) .nil))))
       · intro q hq
         rcases List.mem_append.mp hq with hq | hq
         · simp only [List.mem_cons, List.not_mem_nil, or_false] at hq
           rcases hq with rfl | rfl
           · exact Nat.ne_of_gt hTl2
           · exact Nat.ne_of_gt hTl
         · exact hn1 q hq
    · have hk3 : kindW x = 3 := by first | assumption | (simp_all; done)
      repeat ((first | (with_reducible show wpAny _ _ _ _ _ _) | (with_reducible show ite _ _ _)); (fail_if_success (with_reducible show wpAny _ _ (exec (PySem.Stmt.While _ _ _ _) _) _ _ _)); (fail_if_success (with_reducible show wpAny _ _ (exec (PySem.Stmt.For _ _ _ _ _) _) _ _ _)); (fail_if_success (with_reducible show wpAny _ _ (pyIter _) _ _ _)); (fail_if_success (with_reducible show wpAny _ _ (subscriptTail _ _ _ _) _ _ _)); (fail_if_success (with_reducible show wpAny _ _ (call (Value.builtin "list.append") _) _ _ _)); (fail_if_success (with_reducible show wpAny _ _ (getMethod _ _ _) _ _ _)); (fail_if_success (with_reducible show wpAny _ _ (newList _) _ _ _)); (fail_if_success (with_reducible show wpAny _ _ (newTuple _) _ _ _)); walk1; (try dsimp only))
      rename Fr _ _ _ _ => Fp
      rename News _ _ _ _ => Np0
      have Np : News g L1 _ ((lt, listOf vs.toArray n) :: ((wl, listOf wvs.toArray wn) :: (fz ++ news) ++ own)) := news_sub Np0 fun p hp => .tail _ hp
      clear Np0
      refine listMethod_K (its := vs.toArray) (n := n) Np (.head _) PySem.F.slot_list_append PySem.F.type_list_append ?_
      repeat ((first | (with_reducible show wpAny _ _ _ _ _ _) | (with_reducible show ite _ _ _)); (fail_if_success (with_reducible show wpAny _ _ (exec (PySem.Stmt.While _ _ _ _) _) _ _ _)); (fail_if_success (with_reducible show wpAny _ _ (exec (PySem.Stmt.For _ _ _ _ _) _) _ _ _)); (fail_if_success (with_reducible show wpAny _ _ (pyIter _) _ _ _)); (fail_if_success (with_reducible show wpAny _ _ (subscriptTail _ _ _ _) _ _ _)); (fail_if_success (with_reducible show wpAny _ _ (call (Value.builtin "list.append") _) _ _ _)); (fail_if_success (with_reducible show wpAny _ _ (getMethod _ _ _) _ _ _)); (fail_if_success (with_reducible show wpAny _ _ (newList _) _ _ _)); (fail_if_success (with_reducible show wpAny _ _ (newTuple _) _ _ _)); walk1; (try dsimp only))
      refine tup_new Fp Np ?_ (by rw [sizeLine_eq]; simp)
      intro T hT FT NT ltT
      repeat ((first | (with_reducible show wpAny _ _ _ _ _ _) | (with_reducible show ite _ _ _)); (fail_if_success (with_reducible show wpAny _ _ (exec (PySem.Stmt.While _ _ _ _) _) _ _ _)); (fail_if_success (with_reducible show wpAny _ _ (exec (PySem.Stmt.For _ _ _ _ _) _) _ _ _)); (fail_if_success (with_reducible show wpAny _ _ (pyIter _) _ _ _)); (fail_if_success (with_reducible show wpAny _ _ (subscriptTail _ _ _ _) _ _ _)); (fail_if_success (with_reducible show wpAny _ _ (call (Value.builtin "list.append") _) _ _ _)); (fail_if_success (with_reducible show wpAny _ _ (getMethod _ _ _) _ _ _)); (fail_if_success (with_reducible show wpAny _ _ (newList _) _ _ _)); (fail_if_success (with_reducible show wpAny _ _ (newTuple _) _ _ _)); walk1; (try dsimp only))
      obtain ⟨oT, hoT, NT'⟩ : ∃ oT, oT = ({ cls := .type "tuple", data := .seq _ } : Obj) ∧ News g L1 hT ((T, oT) :: ((lt, listOf vs.toArray n) :: ((wl, listOf wvs.toArray wn) :: (fz ++ news) ++ own))) := ⟨_, rfl, NT⟩
      refine append_K FT NT' (.tail (Nat.ne_of_gt (ltT (lt, listOf vs.toArray n) (.head _))) (Upd.head hrest)) ?_ (by rw [List.size_toArray, sizeLine_eq]; omega)
      intro h9 F9' N9'
      rw [List.push_toArray] at N9'
      repeat ((first | (with_reducible show wpAny _ _ _ _ _ _) | (with_reducible show ite _ _ _)); (fail_if_success (with_reducible show wpAny _ _ (exec (PySem.Stmt.While _ _ _ _) _) _ _ _)); (fail_if_success (with_reducible show wpAny _ _ (exec (PySem.Stmt.For _ _ _ _ _) _) _ _ _)); (fail_if_success (with_reducible show wpAny _ _ (pyIter _) _ _ _)); (fail_if_success (with_reducible show wpAny _ _ (subscriptTail _ _ _ _) _ _ _)); (fail_if_success (with_reducible show wpAny _ _ (call (Value.builtin "list.append") _) _ _ _)); (fail_if_success (with_reducible show wpAny _ _ (getMethod _ _ _) _ _ _)); (fail_if_success (with_reducible show wpAny _ _ (newList _) _ _ _)); (fail_if_success (with_reducible show wpAny _ _ (newTuple _) _ _ _)); walk1; (try dsimp only))
      refine f_end (vs ++ [Value.ref T], n + 1, [(T, oT)] ++ fz) F9' (news_sub N9' reo) ?_ (by kst_all) ⟨?_, ?_⟩
      · refine ownoff_new hoff fun q hq z hz => ?_
        rw [List.mem_singleton.mp hq]
        exact Nat.ne_of_lt (ltT z (.tail _ (List.mem_append.mpr (.inr hz))))
      · show DatAll ([(T, oT)] ++ fz) (vs ++ [Value.ref T]) _
        rw [triesL_take hx, List.map_append]
        unfold triesAt
        rw [if_pos hk3]
        refine (hD.mono fun q hq => List.mem_append.mpr (.inr hq)).append (.cons ?_ .nil)
        subst hoT
        exact .tuple (.head _) (.cons (.int _ _) (.cons (.int _ _) (.cons (.int _ _) (.cons (.str _ _) .nil))))
      · intro q hq
        rcases List.mem_append.mp hq with hq | hq
        · rw [List.mem_singleton.mp hq]
          exact Nat.ne_of_gt (ltT (lt, listOf vs.toArray n) (.head _))
        · exact hn1 q hq
  · rintro ⟨vs, n, fz⟩ u h tk ⟨hD, hn1⟩ F9 N9
    dsimp only at hD hn1 F9 N9
    rw [hwlen, List.take_length] at hD
    repeat ((first | (with_reducible show wpAny _ _ _ _ _ _) | (with_reducible show ite _ _ _)); (fail_if_success (with_reducible show wpAny _ _ (exec (PySem.Stmt.While _ _ _ _) _) _ _ _)); (fail_if_success (with_reducible show wpAny _ _ (exec (PySem.Stmt.For _ _ _ _ _) _) _ _ _)); (fail_if_success (with_reducible show wpAny _ _ (pyIter _) _ _ _)); (fail_if_success (with_reducible show wpAny _ _ (subscriptTail _ _ _ _) _ _ _)); (fail_if_success (with_reducible show wpAny _ _ (call (Value.builtin "list.append") _) _ _ _)); (fail_if_success (with_reducible show wpAny _ _ (getMethod _ _ _) _ _ _)); (fail_if_success (with_reducible show wpAny _ _ (newList _) _ _ _)); (fail_if_success (with_reducible show wpAny _ _ (newTuple _) _ _ _)); walk1; (try dsimp only))
    rename Fr _ _ _ _ => F20
    rename News _ _ _ _ => N20
    refine lst_new F20 N20 ?_ (by rw [sizeLine_eq]; simp)
    intro ll h21 F21 N21 l21
    repeat ((first | (with_reducible show wpAny _ _ _ _ _ _) | (with_reducible show ite _ _ _)); (fail_if_success (with_reducible show wpAny _ _ (exec (PySem.Stmt.While _ _ _ _) _) _ _ _)); (fail_if_success (with_reducible show wpAny _ _ (exec (PySem.Stmt.For _ _ _ _ _) _) _ _ _)); (fail_if_success (with_reducible show wpAny _ _ (pyIter _) _ _ _)); (fail_if_success (with_reducible show wpAny _ _ (subscriptTail _ _ _ _) _ _ _)); (fail_if_success (with_reducible show wpAny _ _ (call (Value.builtin "list.append") _) _ _ _)); (fail_if_success (with_reducible show wpAny _ _ (getMethod _ _ _) _ _ _)); (fail_if_success (with_reducible show wpAny _ _ (newList _) _ _ _)); (fail_if_success (with_reducible show wpAny _ _ (newTuple _) _ _ _)); walk1; (try dsimp only))
    rename Fr _ _ _ _ => F22
    refine wpAny_For ?_
    repeat ((first | (with_reducible show wpAny _ _ _ _ _ _) | (with_reducible show ite _ _ _)); (fail_if_success (with_reducible show wpAny _ _ (exec (PySem.Stmt.While _ _ _ _) _) _ _ _)); (fail_if_success (with_reducible show wpAny _ _ (exec (PySem.Stmt.For _ _ _ _ _) _) _ _ _)); (fail_if_success (with_reducible show wpAny _ _ (pyIter _) _ _ _)); (fail_if_success (with_reducible show wpAny _ _ (subscriptTail _ _ _ _) _ _ _)); (fail_if_success (with_reducible show wpAny _ _ (call (Value.builtin "list.append") _) _ _ _)); (fail_if_success (with_reducible show wpAny _ _ (getMethod _ _ _) _ _ _)); (fail_if_success (with_reducible show wpAny _ _ (newList _) _ _ _)); (fail_if_success (with_reducible show wpAny _ _ (newTuple _) _ _ _)); walk1; (try dsimp only))
    rename Fr _ _ _ _ => F23
    rename News _ _ _ _ => N23
    have hlen := triesL_len xs 0
    refine sorted_ok (fz := fz) F23 N23 (.tail _ (.head _)) (fun p hp => .tail _ (.tail _ (.tail _ (List.mem_append.mpr (.inl hp))))) hD (triesL_nodup xs 0) (by omega) (by omega) ?_
    intro D out oc us h24 F24 N24 hDo hperm hpw hltD
    dsimp only
    have hlul : ∀ p ∈ (lt, listOf vs.toArray n) :: (wl, listOf wvs.toArray wn) :: (fz ++ news), p.1 ≠ ll := fun p hp => Nat.ne_of_lt (l21 p hp)
    have hllD : ll < D := hltD (ll, listOf [].toArray 0) (.head _)
    have hul : us.length ≤ 24 := by have := hperm.length_eq; omega
    refine for_tup (σ := List Value × Nat × List (Addr × Obj) × List Try) (fun c => (ll, listOf c.1.toArray c.2.1) :: (D, listOf out.toArray oc) :: (c.2.2.1 ++ (fz ++ news))) (fun _ => [((Str.ofString "log"), .ref ll), ((Str.ofString "there"), .ref tl)])
      (fun i c => c.2.2.2 = us.take i ∧ DatAll c.2.2.1 c.1 (c.2.2.2.map logD) ∧ (∀ p ∈ c.2.2.1, p.1 ≠ ll) ∧ walkOn zs c.2.2.2) ([], 0, [], []) rfl (fun c => .tail _ (.head _)) F24 ?_ (by kst_all) ⟨by simp, .nil, (fun p hp => nomatch hp), fun t ht => nomatch ht⟩ ?_ ?_ ?_ ?_
    · exact news_sub N24 fun p hp => by
        simp only [List.mem_cons, List.nil_append, List.mem_append] at hp ⊢
        grind
    · intro v hv
      obtain ⟨i, hi, e⟩ := List.getElem_of_mem hv
      have := datall_getD hDo (i := i) (by have := hDo.length; simp at this; omega)
      obtain ⟨a, _, _, _, _, _, e2, _⟩ := try_of this
      rw [List.getD_eq_getElem?_getD, List.getElem?_eq_getElem hi, Option.getD_some, e] at e2
      exact ⟨a, e2⟩
    · rintro i v ⟨lvs, ln, fl, lts⟩ u h tk own hv hoff ⟨hlt, hDl, hnl2, hon⟩ F25 N25
      dsimp only at hoff hlt hDl hnl2 hon F25 N25
      have hi : i < us.length := by have h1 := (List.getElem?_eq_some_iff.mp hv).1; have := hDo.length; simp at this; omega
      have hdv := datall_getD hDo hi
      rw [List.getD_eq_getElem?_getD, hv, Option.getD_some] at hdv
      obtain ⟨a, y1, y2, y3, y4, an, rfl, hma⟩ := try_of hdv
      have hua : us[i]? = some (us.getD i default) := by simp [List.getD_eq_getElem?_getD, hi]
      generalize us.getD i default = t at hma hua hdv
      obtain ⟨⟨r1, r2, r3⟩, nm⟩ := t
      have hma' : (a, _) ∈ (ll, listOf lvs.toArray ln) :: (D, listOf out.toArray oc) :: (fl ++ (fz ++ news)) ++ own := List.mem_append.mpr (.inl (.tail _ (.tail _ (List.mem_append.mpr (.inr (List.mem_append.mpr (.inl hma)))))))
      have N26 := news_sub N25 (b := (a, _) :: ((ll, listOf lvs.toArray ln) :: (D, listOf out.toArray oc) :: (fl ++ (fz ++ news)) ++ own)) (fun p hp => (List.mem_cons.mp hp).elim (fun e => by rw [e]; exact hma') id)
      clear N25
      have hnok : kqdOk 8 (.str nm) = true := triesL_ok (hperm.mem_iff.mp (List.mem_of_getElem? hua))
      have hll : lvs.length = i := by have := hDl.length; rw [hlt] at this; simp at this; omega
      have hrest2 : ∀ p ∈ (D, listOf out.toArray oc) :: (fl ++ (fz ++ news)) ++ own, p.1 ≠ ll := by
        intro q hq
        rcases List.mem_append.mp hq with hq | hq
        · rcases List.mem_cons.mp hq with rfl | hq
          · exact Nat.ne_of_gt hllD
          · rcases List.mem_append.mp hq with hq | hq
            · exact hnl2 q hq
            · exact hlul q (.tail _ (.tail _ hq))
        · exact hoff q hq ll (.head _)
      repeat ((first | (with_reducible show wpAny _ _ _ _ _ _) | (with_reducible show ite _ _ _)); (fail_if_success (with_reducible show wpAny _ _ (exec (PySem.Stmt.While _ _ _ _) _) _ _ _)); (fail_if_success (with_reducible show wpAny _ _ (exec (PySem.Stmt.For _ _ _ _ _) _) _ _ _)); (fail_if_success (with_reducible show wpAny _ _ (pyIter _) _ _ _)); (fail_if_success (with_reducible show wpAny _ _ (subscriptTail _ _ _ _) _ _ _)); (fail_if_success (with_reducible show wpAny _ _ (call (Value.builtin "list.append") _) _ _ _)); (fail_if_success (with_reducible show wpAny _ _ (getMethod _ _ _) _ _ _)); (fail_if_success (with_reducible show wpAny _ _ (newList _) _ _ _)); (fail_if_success (with_reducible show wpAny _ _ (newTuple _) _ _ _)); walk1; (try dsimp only))
      rename Fr _ _ _ _ => Fp
      rename News _ _ _ _ => Np0
      have Np : News g L1 _ ((ll, listOf lvs.toArray ln) :: ((D, listOf out.toArray oc) :: (fl ++ (fz ++ news)) ++ own)) := news_sub Np0 fun p hp => .tail _ hp
      clear Np0
      refine listMethod_K (its := lvs.toArray) (n := ln) Np (.head _) PySem.F.slot_list_append PySem.F.type_list_append ?_
      repeat ((first | (with_reducible show wpAny _ _ _ _ _ _) | (with_reducible show ite _ _ _)); (fail_if_success (with_reducible show wpAny _ _ (exec (PySem.Stmt.While _ _ _ _) _) _ _ _)); (fail_if_success (with_reducible show wpAny _ _ (exec (PySem.Stmt.For _ _ _ _ _) _) _ _ _)); (fail_if_success (with_reducible show wpAny _ _ (pyIter _) _ _ _)); (fail_if_success (with_reducible show wpAny _ _ (subscriptTail _ _ _ _) _ _ _)); (fail_if_success (with_reducible show wpAny _ _ (call (Value.builtin "list.append") _) _ _ _)); (fail_if_success (with_reducible show wpAny _ _ (getMethod _ _ _) _ _ _)); (fail_if_success (with_reducible show wpAny _ _ (newList _) _ _ _)); (fail_if_success (with_reducible show wpAny _ _ (newTuple _) _ _ _)); walk1; (try dsimp only))
      refine tup_new Fp Np ?_ (by rw [sizeLine_eq]; simp)
      intro T hT FT NT ltT
      repeat ((first | (with_reducible show wpAny _ _ _ _ _ _) | (with_reducible show ite _ _ _)); (fail_if_success (with_reducible show wpAny _ _ (exec (PySem.Stmt.While _ _ _ _) _) _ _ _)); (fail_if_success (with_reducible show wpAny _ _ (exec (PySem.Stmt.For _ _ _ _ _) _) _ _ _)); (fail_if_success (with_reducible show wpAny _ _ (pyIter _) _ _ _)); (fail_if_success (with_reducible show wpAny _ _ (subscriptTail _ _ _ _) _ _ _)); (fail_if_success (with_reducible show wpAny _ _ (call (Value.builtin "list.append") _) _ _ _)); (fail_if_success (with_reducible show wpAny _ _ (getMethod _ _ _) _ _ _)); (fail_if_success (with_reducible show wpAny _ _ (newList _) _ _ _)); (fail_if_success (with_reducible show wpAny _ _ (newTuple _) _ _ _)); walk1; (try dsimp only))
      refine tup_new FT NT ?_ (by rw [sizeLine_eq]; simp)
      intro T2 hT2 FT2 NT2 ltT2
      repeat ((first | (with_reducible show wpAny _ _ _ _ _ _) | (with_reducible show ite _ _ _)); (fail_if_success (with_reducible show wpAny _ _ (exec (PySem.Stmt.While _ _ _ _) _) _ _ _)); (fail_if_success (with_reducible show wpAny _ _ (exec (PySem.Stmt.For _ _ _ _ _) _) _ _ _)); (fail_if_success (with_reducible show wpAny _ _ (pyIter _) _ _ _)); (fail_if_success (with_reducible show wpAny _ _ (subscriptTail _ _ _ _) _ _ _)); (fail_if_success (with_reducible show wpAny _ _ (call (Value.builtin "list.append") _) _ _ _)); (fail_if_success (with_reducible show wpAny _ _ (getMethod _ _ _) _ _ _)); (fail_if_success (with_reducible show wpAny _ _ (newList _) _ _ _)); (fail_if_success (with_reducible show wpAny _ _ (newTuple _) _ _ _)); walk1; (try dsimp only))
      obtain ⟨oT, hoT, oT2, hoT2, NT'⟩ : ∃ oT, oT = ({ cls := .type "tuple", data := .seq _ } : Obj) ∧ ∃ oT2, oT2 = ({ cls := .type "tuple", data := .seq _ } : Obj) ∧ News g L1 hT2 ((T2, oT2) :: (T, oT) :: (ll, listOf lvs.toArray ln) :: ((D, listOf out.toArray oc) :: (fl ++ (fz ++ news)) ++ own)) := ⟨_, rfl, _, rfl, NT2⟩
      have hTl : ll < T := ltT (ll, listOf lvs.toArray ln) (.head _)
      have hTl2 : ll < T2 := ltT2 (ll, listOf lvs.toArray ln) (.tail _ (.head _))
      refine append_K FT2 NT' (.tail (Nat.ne_of_gt hTl2) (.tail (Nat.ne_of_gt hTl) (Upd.head hrest2))) ?_ (by rw [List.size_toArray, sizeLine_eq]; omega)
      intro h29 F29 N29
      rw [List.push_toArray] at N29
      clear NT NT2
      repeat ((first | (with_reducible show wpAny _ _ _ _ _ _) | (with_reducible show ite _ _ _)); (fail_if_success (with_reducible show wpAny _ _ (exec (PySem.Stmt.While _ _ _ _) _) _ _ _)); (fail_if_success (with_reducible show wpAny _ _ (exec (PySem.Stmt.For _ _ _ _ _) _) _ _ _)); (fail_if_success (with_reducible show wpAny _ _ (pyIter _) _ _ _)); (fail_if_success (with_reducible show wpAny _ _ (subscriptTail _ _ _ _) _ _ _)); (fail_if_success (with_reducible show wpAny _ _ (call (Value.builtin "list.append") _) _ _ _)); (fail_if_success (with_reducible show wpAny _ _ (getMethod _ _ _) _ _ _)); (fail_if_success (with_reducible show wpAny _ _ (newList _) _ _ _)); (fail_if_success (with_reducible show wpAny _ _ (newTuple _) _ _ _)); walk1; (try dsimp only))
      have hdt : DatAll ([(T2, oT2), (T, oT)] ++ fl) (lvs ++ [Value.ref T2]) ((us.take i ++ [((r1, r2, r3), nm)]).map logD) := by
        rw [List.map_append, ← hlt]
        refine (hDl.mono fun q hq => List.mem_append.mpr (.inr hq)).append (.cons ?_ .nil)
        subst hoT hoT2
        exact .tuple (.head _) (.cons (.tuple (.tail _ (.head _)) (.cons (.int _ _) (.cons (.int _ _) (.cons (.int _ _) .nil)))) (.cons (.str _ _) .nil))
      rename Fr _ _ _ _ => F30
      rename News _ _ _ _ => N30
      refine isIn_str N30 (.tail _ (.tail _ (.tail _ (List.mem_append.mpr (.inl (.tail _ (List.mem_append.mpr (.inr (List.mem_append.mpr (.inr htl))))))))) ) hTh hz hnok ?_ ?_ ?_
      · ktr_units
      · intro hin
        repeat ((first | (with_reducible show wpAny _ _ _ _ _ _) | (with_reducible show ite _ _ _)); (fail_if_success (with_reducible show wpAny _ _ (exec (PySem.Stmt.While _ _ _ _) _) _ _ _)); (fail_if_success (with_reducible show wpAny _ _ (exec (PySem.Stmt.For _ _ _ _ _) _) _ _ _)); (fail_if_success (with_reducible show wpAny _ _ (pyIter _) _ _ _)); (fail_if_success (with_reducible show wpAny _ _ (subscriptTail _ _ _ _) _ _ _)); (fail_if_success (with_reducible show wpAny _ _ (call (Value.builtin "list.append") _) _ _ _)); (fail_if_success (with_reducible show wpAny _ _ (getMethod _ _ _) _ _ _)); (fail_if_success (with_reducible show wpAny _ _ (newList _) _ _ _)); (fail_if_success (with_reducible show wpAny _ _ (newTuple _) _ _ _)); walk1; (try dsimp only))
        dsimp only [FPost]
        refine leaveK_ F30 N30 fun F6 N6 => ret _ _ _ ((ll, listOf (lvs ++ [Value.ref T2]).toArray (ln + 1)) :: ([(T2, oT2), (T, oT)] ++ fl)) us F6 (news_sub N6 fun p hp => ?_) hperm hpw ?_
        · simp only [List.mem_cons, List.mem_append, List.not_mem_nil, or_false] at hp ⊢; grind
        · rw [split_at hua, walkLog_end (by rw [← hlt]; exact hon) hin]
          exact .list (.head _) (hdt.mono fun q hq => .tail _ hq)
      · intro hin
        repeat ((first | (with_reducible show wpAny _ _ _ _ _ _) | (with_reducible show ite _ _ _)); (fail_if_success (with_reducible show wpAny _ _ (exec (PySem.Stmt.While _ _ _ _) _) _ _ _)); (fail_if_success (with_reducible show wpAny _ _ (exec (PySem.Stmt.For _ _ _ _ _) _) _ _ _)); (fail_if_success (with_reducible show wpAny _ _ (pyIter _) _ _ _)); (fail_if_success (with_reducible show wpAny _ _ (subscriptTail _ _ _ _) _ _ _)); (fail_if_success (with_reducible show wpAny _ _ (call (Value.builtin "list.append") _) _ _ _)); (fail_if_success (with_reducible show wpAny _ _ (getMethod _ _ _) _ _ _)); (fail_if_success (with_reducible show wpAny _ _ (newList _) _ _ _)); (fail_if_success (with_reducible show wpAny _ _ (newTuple _) _ _ _)); walk1; (try dsimp only))
        refine f_end (lvs ++ [Value.ref T2], ln + 1, [(T2, oT2), (T, oT)] ++ fl, lts ++ [((r1, r2, r3), nm)]) F30 (news_sub N30 reo) ?_ (by kst_all) ⟨?_, ?_, ?_, ?_⟩
        · refine ownoff_new hoff fun q hq z hz => ?_
          simp only [List.mem_cons, List.not_mem_nil, or_false] at hq
          rcases hq with rfl | rfl
          · exact Nat.ne_of_lt (ltT2 z (.tail _ (.tail _ (List.mem_append.mpr (.inr hz)))))
          · exact Nat.ne_of_lt (ltT z (.tail _ (List.mem_append.mpr (.inr hz))))
        · obtain ⟨hi', e'⟩ := List.getElem?_eq_some_iff.mp hua
          show lts ++ [_] = _
          rw [List.take_succ_eq_append_getElem hi', e', hlt]
        · show DatAll _ _ ((lts ++ [_]).map logD)
          rw [hlt]; exact hdt
        · intro q hq
          rcases List.mem_append.mp hq with hq | hq
          · simp only [List.mem_cons, List.not_mem_nil, or_false] at hq
            rcases hq with rfl | rfl
            · exact Nat.ne_of_gt hTl2
            · exact Nat.ne_of_gt hTl
          · exact hnl2 q hq
        · intro q hq
          rcases List.mem_append.mp hq with hq | hq
          · exact hon q hq
          · rw [List.mem_singleton.mp hq]; exact hin
    · rintro ⟨lvs, ln, fl, lts⟩ u h tk ⟨hlt, hDl, hnl2, hon⟩ F25 N25
      dsimp only at hlt hDl hnl2 hon F25 N25
      have hol : out.length = us.length := by have := hDo.length; simpa using this
      rw [hol, List.take_length] at hlt
      subst hlt
      repeat ((first | (with_reducible show wpAny _ _ _ _ _ _) | (with_reducible show ite _ _ _)); (fail_if_success (with_reducible show wpAny _ _ (exec (PySem.Stmt.While _ _ _ _) _) _ _ _)); (fail_if_success (with_reducible show wpAny _ _ (exec (PySem.Stmt.For _ _ _ _ _) _) _ _ _)); (fail_if_success (with_reducible show wpAny _ _ (pyIter _) _ _ _)); (fail_if_success (with_reducible show wpAny _ _ (subscriptTail _ _ _ _) _ _ _)); (fail_if_success (with_reducible show wpAny _ _ (call (Value.builtin "list.append") _) _ _ _)); (fail_if_success (with_reducible show wpAny _ _ (getMethod _ _ _) _ _ _)); (fail_if_success (with_reducible show wpAny _ _ (newList _) _ _ _)); (fail_if_success (with_reducible show wpAny _ _ (newTuple _) _ _ _)); walk1; (try dsimp only))
      refine lst_new F25 N25 ?_ (by rw [sizeLine_eq]; simp)
      intro l9 h26 F26 N26 lt26
      repeat ((first | (with_reducible show wpAny _ _ _ _ _ _) | (with_reducible show ite _ _ _)); (fail_if_success (with_reducible show wpAny _ _ (exec (PySem.Stmt.While _ _ _ _) _) _ _ _)); (fail_if_success (with_reducible show wpAny _ _ (exec (PySem.Stmt.For _ _ _ _ _) _) _ _ _)); (fail_if_success (with_reducible show wpAny _ _ (pyIter _) _ _ _)); (fail_if_success (with_reducible show wpAny _ _ (subscriptTail _ _ _ _) _ _ _)); (fail_if_success (with_reducible show wpAny _ _ (call (Value.builtin "list.append") _) _ _ _)); (fail_if_success (with_reducible show wpAny _ _ (getMethod _ _ _) _ _ _)); (fail_if_success (with_reducible show wpAny _ _ (newList _) _ _ _)); (fail_if_success (with_reducible show wpAny _ _ (newTuple _) _ _ _)); walk1; (try dsimp only))
      have hll : lvs.length = lts.length := by have := hDl.length; simpa using this
      refine kmk_add_lit (its := lvs.toArray) (its2 := [Value.str (Str.ofString "C") tk].toArray) (zs := lvs ++ [Value.str (Str.ofString "C") tk]) F26 N26 ⟨_, (N26 _ (.tail _ (.head _))).1, rfl, ln, rfl⟩ ⟨_, (N26 _ (.head _)).1, rfl, 0, rfl⟩ (by simp) ?_ (by rw [sizeLine_eq]; simp; omega)
      intro D9 h27 F27 N27 lt27
      try dsimp only
      refine leaveK_ F27 N27 fun F6 N6 => ret _ _ _ ((D9, listOf (lvs ++ [Value.str (Str.ofString "C") tk]).toArray 0) :: fl) lts F6 (news_sub N6 fun p hp => ?_) hperm hpw ?_
      · simp only [List.mem_cons, List.mem_append, List.cons_append] at hp ⊢; grind
      · have e := walkLog_on (us := []) hon
        rw [List.append_nil] at e
        rw [e]
        refine .list (.head _) ?_
        exact (hDl.mono fun q hq => .tail _ hq).append (.cons (.str _ _) .nil)
    · passes_own
end Mine
end PartS11
section PartX5
open PySem PySem.W PyProof.Rows PySem.Calls
set_option maxRecDepth 100000
set_option Elab.async false
namespace Mine
section
variable {prog : Program} {w : World} {A₀ A : Around} {s : Shared} {base h₀ g₀ : Heap} {outer : List Env} {L a : Addr} {m : Str → Option Value} {cn : Str} {cs : Scope} {ccd : Value} {news : List (Addr × Obj)} {K : Frag} {p : Program} {loose : List Str} {mean : ExcName → Option Value} {mg mb : Str → Option Value}
    {R : Result → Shared → Prop} {name qual : Str} {params : Arguments} {body : List Stmt} {scope : Scope} {dV kV doc pm cdv ct oc : Value} {an od : Option Addr} {osl : Array (Option Value)} {f : Addr} {args : Args} {binds : List (Str × Value)}
theorem code_defCS0 (B : Below A₀ base [] h₀) (F : Fr h₀ L s.heap m) (X₀ : K.In h₀) (N : News h₀ L s.heap news) (T : Top p loose mean mg mb h₀) (hA : A.frames = some [envOf cn cs L a ccd])
    (ho : K.lookup f = some ⟨oc, od, .func (fnOf name qual params body scope dV kV doc pm an cdv ct), osl⟩) (hcd : codeIn K cdv qual = true) (hroom : A.depth < recursionLimit)
    (hbind : BindsTo s (fnOf name qual params body scope dV kV doc pm an cdv ct) args binds) (hkind : (binds.all fun y => scope.names.lookup y.1 == some .local || scope.names.lookup y.1 == some .cell) = true)
    (hnd : ((cellsFrom 0 scope.names []).map (·.1)).Nodup)
    (h : ∀ g L' h₁ tk cells, Fr h₀ L g m → Fr g L' h₁ (bindL (envOfC qual scope L' f cdv).kindOf binds fun _ => none) → News g L' h₁ (cells ++ news) →
      CellsAre (bindC (envOfC qual scope L' f cdv).kindOf binds fun _ => none) (cellsFrom (L' + 1) scope.names []) cells → Below A base [envOf cn cs L a ccd] g → K.In g → Top p loose mean mg mb g → KtsDicts ([envOf cn cs L a ccd].filterMap (·.frame)) g → (∀ p ∈ news, p.1 < L') →
      wpAny (model prog w) (A.deeper (envOfC qual scope L' f cdv)) (execs body (envOfC qual scope L' f cdv))
        (fun fl s' => LeaveS0 ([envOf cn cs L a ccd].filterMap (·.frame)) h₀ L m g R (match fl with | .ret v => v | _ => .none) s')
        (fun e s' => wpAny (model prog w) (A.deeper (envOfC qual scope L' f cdv)) (leaving (envOfC qual scope L' f cdv) e) (fun _ s'' => R (.error e) s'') (fun e' s'' => R (.error e') s'') s')
        { s with heap := h₁, toks := tk })
    (hck : cs.kind = .function) (hco : scope.isCoroutine = false) (hgen : scope.isGenerator = false) (hk : scope.kind = .function) : codeAny (model prog w) A (.call (.ref f) args) R s := by
  have X := X₀.keeps F.keep
  obtain ⟨oL, es, ep, hLg, hLd, hN, hNs, st, B₂⟩ := kts_enter B F N hA hck
  refine codeAny_call_function hroom (X _ _ ho) rfl hco hgen rfl (codeRec_of X hcd) (hbind _ _ _ _ ?_)
  refine wpAny_newFunctionEnv_cells hk (kindsX hkind _) fun env' he s' x => ?_
  subst he
  refine ⟨(T.nolimit.keeps F.keep).keeps x.toInCall.keep, codeAny_func ?_⟩
  obtain ⟨h₁, tk, rfl, _⟩ := x.done
  have hk₁ := x.toInCall.keep
  obtain ⟨cells, NC, Y⟩ := Cl.news (h₀ := s.heap) (Nat.le_refl _) fun n c hm => ⟨x.cell n c (lookup_of_mem_nodup (cellsFrom_names scope.names 0 (s.heap.objs.size + 1) [] [] rfl ▸ hnd) hm), x.above n c hm⟩
  refine wpAny_mono (h _ s.heap.objs.size h₁ tk cells ⟨hN _ hLg, st, F.above⟩ ⟨x.toInCall.ns, fun b o e => hk₁ b o (of_hideAll _ e), Nat.le_of_eq (hideAll_size _ _)⟩ (fun p hp => ?_) Y B₂ (X₀.keeps st) (T.keeps st) (fun b hb => by
      rcases kts_mem hb with rfl | z
      · exact ⟨oL, es, ep, hLg, hLd⟩
      · simp at z) (fun p hp => Heap.lt_size (N p hp).1)) (fun fl s' hl => ?_) fun _ _ y => y
  · rcases List.mem_append.mp hp with hp | hp
    · refine ⟨(NC p hp).1, (NC p hp).2.1, ?_⟩
      cases q : (hideAll s.heap (news.map (·.1))).get? p.1 with
      | none => rfl
      | some o => have := of_hideAll _ q; rw [(NC p hp).2.2] at this; cases this
    · exact ⟨hk₁ _ _ (N p hp).1, Nat.ne_of_lt (Heap.lt_size (N p hp).1), hideAll_none _ (List.mem_map_of_mem hp)⟩
  obtain ⟨g', L', m', news', T', F', N', k⟩ := hl
  have nL₀ : h₀.get? L = none := kts_self F
  obtain ⟨sl, hs⟩ := T'.up hLg
  refine k ⟨hNs sl _ (F'.keep _ _ hs), fun b o e => F'.keep b o (T'.other b o (st b o e) (fun q => by
    rcases kts_mem q with z | z
    · rw [z, nL₀] at e
      cases e
    · simp at z)), F.above⟩ fun p hp => ⟨(N' p hp).1, fun q => ?_, ?_⟩
  · have := (N' p hp).2.2; rw [q, hs] at this; cases this
  · cases q : h₀.get? p.1 with
    | none => rfl
    | some o =>
      obtain ⟨sl', hs'⟩ := T'.up (st _ _ q)
      have := (N' p hp).2.2
      rw [hs'] at this
      cases this
end
section
variable {prog : Program} {w : World} {A₀ : Around} {E : Value → Shared → Prop} {s' : Shared} {base g g₀ G : Heap} {outer : List Env} {L a e t : Addr} {m : Str → Option Value} {name : Str} {scope : Scope} {cd : Value} {cl : List (Str × Addr)} {news : List (Addr × Obj)} {KF : Frag} {p : Program} {loose : List Str} {mean : ExcName → Option Value} {mg mb : Str → Option Value}
  {vs : List Value} {X T' : String} {x n : Str} {np pos : Pos} {b₀ : Stmt} {suite : List Stmt} {rest : List ExceptHandler} {Q : Flow → Shared → Prop}
theorem caught_X (R : RaisedS base G (envX name scope L a cd cl :: outer) e (.type X) t vs news s'.heap) (F : Fr g L G m) (K : Below A₀ base outer g) (hsm : G.UpToSlots s'.heap) (XB : KF.In base) (TB : Top p loose mean mg mb base)
    (D : KtsDicts (outer.filterMap (·.frame)) g) (T0 : KtsTurn (outer.filterMap (·.frame)) g₀ g)
    (ex : nsIn KF mainGlobals x = some none) (hv : bootBuiltins x = some (.type T')) (hn' : x ≠ "__name__")
    (hexc : isSubtype (.type T') (.type "BaseException") = pure true) (hnt : isSubtype (.type ((Manifest.find? T').elim "type" fun y => y.metatype)) (.type "tuple") = pure false) (hsub : isSubtype (.type X) (.type T') = pure true)
    (k : ∀ h' g' news₂ tk, KtsTurn (outer.filterMap (·.frame)) g₀ g' → Fr g' L h' (fun y => if y = n then some (.ref e) else m y) → News g' L h' news₂ → Got news₂ e t (.type X) vs → News g' L h' news → Below A₀ base outer g' → KF.In g' → Top p loose mean mg mb g' → KtsDicts (outer.filterMap (·.frame)) g' →
      wpAny (model prog w) ((A₀.deeper (envX name scope L a cd cl)).mark (some (.ref e))) (execs (b₀ :: suite) (envX name scope L a cd cl))
        (fun f s₄ => wpAny (model prog w) (A₀.deeper (envX name scope L a cd cl)) (do bindName (envX name scope L a cd cl) n .none; unbindBehindTheSuite (envX name scope L a cd cl) n pos) (fun _ s₅ => Q f s₅) E s₄)
        (AsSuiteRaised (model prog w) ((A₀.deeper (envX name scope L a cd cl)).mark (some (.ref e))) (envX name scope L a cd cl) n pos (notedBy (model prog w) ((A₀.deeper (envX name scope L a cd cl)).mark (some (.ref e))) (envX name scope L a cd cl) (cameBackBy (model prog w) (A₀.deeper (envX name scope L a cd cl)) (envX name scope L a cd cl) E)))
        { s' with heap := h', toks := tk })
    (hk : scope.kind = .function := by rfl) (hlo : (envX name scope L a cd cl).kindOf n = some .local := by rfl) (hx : (envX name scope L a cd cl).kindOf x = some .globalImplicit := by rfl) (hd : (x == ("__debug__" : Str)) = false := by decide) :
    wpAny (model prog w) (A₀.deeper (envX name scope L a cd cl)) (noteFrame (.ref e) (envX name scope L a cd cl))
      (fun _ s₂ => wpAny (model prog w) (A₀.deeper (envX name scope L a cd cl)) (setFlight (.ref e) none) (fun _ s₃ =>
        wpAny (model prog w) (A₀.deeper (envX name scope L a cd cl)) (handleBy (.ref e) (envX name scope L a cd cl) (.ExceptHandler (some (.Name x np)) (some n) (b₀ :: suite) pos :: rest)) Q E s₃) E s₂) E s' := by
  obtain ⟨⟨B, hB, hBG, hl, hfl, hnew⟩, htup⟩ := R
  have hBG' : ∀ b o, G.get? b = some o → b ∉ (envOf name scope L a cd :: outer).filterMap (·.frame) → B.get? b = some o := hBG
  have hL : B.get? L = none := by
    obtain ⟨_, ⟨L', _, hf, hn', _⟩, _⟩ := hfl.2.2.1
    obtain rfl : L = L' := Option.some.inj hf
    exact hn'
  refine wpAny_looks_onW (Around.frames_deeper K.stack) rfl hfl fun h₄ hheld₄ hsm₄ => ?_
  refine wpAny_landsW hheld₄ fun h₅ hheld hsm₅' => ?_
  have hsm₅ := hsm₄.trans hsm₅'
  obtain ⟨g₅, T₅, F₅, K₅⟩ := kts_ground K F hBG' hheld.1 (hsm.trans hsm₅)
  have X₅ : KF.In g₅ := XB.keeps K₅.stays
  have P₅ : TopRead p loose mg mb g₅ := topRead_of (TB.keeps K₅.stays)
  obtain ⟨ob, hob, hobc⟩ := hheld.there
  refine wpAny_handleBy_builtin_as (X := X) (T := T') (b := true) hexc hnt hsub (nameX_B F₅ X₅ P₅ ex hv hn' ⟨rfl, ⟨ob, hob, hobc⟩, ?_⟩ hk hx hd)
  refine lands_againW hheld fun h₆ hfl₆ hsm₆ => ?_
  obtain ⟨g₆, T₆, F₆, K₆⟩ := kts_ground K F hBG' hfl₆.1 ((hsm.trans hsm₅).trans hsm₆)
  obtain ⟨oe, ws, hoe, hoec, hoed, hoe0⟩ := hfl₆.first
  obtain ⟨ot, nt, hot, hotc, hotd⟩ := (htup.of_slots hsm₅).of_slots hsm₆
  have ne₆ : g₆.get? e = none := T₆.none_ _ (kts_fresh F hBG' hfl₆.2.1 fun o ho m => by
    obtain ⟨_, o', ho', hd⟩ := K.frames.mem m
    rw [ho] at ho'
    cases ho'
    obtain ⟨sl, hs⟩ := ((hsm.trans hsm₅).trans hsm₆) _ _ (F.keep _ _ ho) hd
    rw [hoe] at hs
    cases hs
    exact hd _ hoed)
  have nt₆ : g₆.get? t = none := T₆.none_ _ (kts_fresh F hBG' hnew fun o ho m => by
    obtain ⟨o', es, n', ho', hd⟩ := D _ m
    rw [ho] at ho'
    cases ho'
    obtain ⟨sl, hs⟩ := ((hsm.trans hsm₅).trans hsm₆) _ _ (F.keep _ _ ho) (fun vs q => by rw [hd] at q; cases q)
    rw [hot] at hs
    cases hs
    have z := hd.symm.trans hotd
    cases z)
  have N₆ := News.more F₆ (News.more F₆ News.nil hot (fun es n q => by rw [hotd] at q; cases q) nt₆) hoe (fun es n q => by rw [hoed] at q; cases q) ne₆
  have Nl : News g₆ L h₆ news := fun q hq => ⟨hfl₆.1 _ _ (hl q hq).1, (fun z => by have := (hl q hq).1; rw [z, hL] at this; cases this), T₆.none_ _ (kts_none F.keep (hl q hq).2.1)⟩
  have X₆ : KF.In g₆ := XB.keeps K₆.stays
  have P₆ : Top p loose mean mg mb g₆ := TB.keeps K₆.stays
  have D₆ : KtsDicts (outer.filterMap (·.frame)) g₆ := D.turn T₆
  refine storeX_L F₆ (news := _ ++ news) (fun q hq => (List.mem_append.mp hq).elim (N₆ q) (Nl q)) (fun h₇ F₇ N₇ => ?_) hk hlo
  exact k h₇ g₆ _ _ (T0.trans T₆) F₇ (fun q hq => N₇ q (List.mem_append_left _ hq)) ⟨oe, ot, ws, nt, .head _, .tail _ (.head _), hoec, hoed, hoe0, hotc, hotd⟩ (fun q hq => N₇ q (List.mem_append_right _ hq)) K₆ X₆ P₆ D₆
end
end Mine
end PartX5
section PartW4
open PySem PySem.W PyProof.Rows
set_option maxRecDepth 100000
set_option Elab.async false
namespace Mine
def startL : Nat → List Int → List Tri
  | _, [] => []
  | k, x :: r => (-(x.fmod 10), (k : Int), 0) :: startL (k + 1) r
theorem startL_snoc {x : Int} : ∀ (xs : List Int) (k : Nat), startL k (xs ++ [x]) = startL k xs ++ [(-(x.fmod 10), ((k + xs.length : Nat) : Int), 0)]
  | [], k => by simp [startL]
  | y :: r, k => by
    show _ :: startL (k + 1) (r ++ [x]) = _ :: (startL (k + 1) r ++ _)
    rw [startL_snoc r (k + 1), List.length_cons]
    have : k + 1 + r.length = k + (r.length + 1) := by omega
    rw [this]
theorem startL_take {xs : List Int} {i : Nat} {x : Int} (h : xs[i]? = some x) : startL 0 (xs.take (i + 1)) = startL 0 (xs.take i) ++ [(-(x.fmod 10), (i : Int), 0)] := by
  obtain ⟨hi, e⟩ := List.getElem?_eq_some_iff.mp h
  rw [List.take_succ_eq_append_getElem hi, startL_snoc, e, List.length_take, Nat.zero_add, Nat.min_eq_left (by omega)]
theorem startL_len : ∀ (xs : List Int) (k : Nat), (startL k xs).length = xs.length
  | [], _ => rfl
  | x :: r, k => by show (startL (k + 1) r).length + 1 = r.length + 1; rw [startL_len r (k + 1)]
end Mine
end PartW4
section PartW5
open PySem PySem.W PyProof.Rows
set_option maxRecDepth 100000
set_option Elab.async false
namespace Mine
theorem tri_trans {a b c : Tri} (h1 : triLt a b = true) (h2 : triLt b c = true) : triLt a c = true := by
  obtain ⟨a1, a2, a3⟩ := a
  obtain ⟨b1, b2, b3⟩ := b
  obtain ⟨c1, c2, c3⟩ := c
  simp only [triLt] at h1 h2 ⊢
  by_cases e1 : a1 = b1 <;> by_cases e2 : a2 = b2 <;> by_cases e3 : b1 = c1 <;> by_cases e4 : b2 = c2 <;> by_cases e5 : a1 = c1 <;> by_cases e6 : a2 = c2 <;> simp_all <;> omega
theorem tri_asymm {a b : Tri} (h1 : triLt a b = true) : triLt b a = false := by
  obtain ⟨a1, a2, a3⟩ := a
  obtain ⟨b1, b2, b3⟩ := b
  simp only [triLt] at h1 ⊢
  by_cases e1 : a1 = b1
  · subst e1
    by_cases e2 : a2 = b2
    · subst e2
      simp only [if_true, decide_eq_true_eq] at h1 ⊢
      simp; omega
    · have e2' : ¬ b2 = a2 := fun q => e2 q.symm
      simp only [e2, e2', if_true, if_false, decide_eq_true_eq] at h1 ⊢
      simp; omega
  · have e1' : ¬ b1 = a1 := fun q => e1 q.symm
    simp only [e1, e1', if_false, decide_eq_true_eq] at h1 ⊢
    simp; omega
def restOf (x : Int) (k : Nat) : List Try := if kindW x = 3 then [] else if encOf x = none then [] else [((3 - x.fmod 10, (k : Int), 1), nameOf (langOf x) none)]
def nameT (x : Int) (st : Int) : Str := if st = 0 then (if kindW x = 3 then badMsg else nameOf (langOf x) (encOf x)) else nameOf (langOf x) none
def pendOf (xs : List Int) (t : Tri) : List Try :=
  (t, nameT (xs.getD t.2.1.toNat 0) t.2.2) :: (if t.2.2 = 0 then restOf (xs.getD t.2.1.toNat 0) t.2.1.toNat else [])
def EntOk (xs : List Int) (t : Tri) : Prop := ∃ (k : Nat) (x : Int), xs[k]? = some x ∧ (t = (-(x.fmod 10), (k : Int), 0) ∨ (t = (3 - x.fmod 10, (k : Int), 1) ∧ kindW x ≠ 3 ∧ encOf x ≠ none))
theorem triesAt_eq (k : Nat) (x : Int) : triesAt k x = ((-(x.fmod 10), (k : Int), 0), nameT x 0) :: restOf x k := by
  unfold triesAt restOf nameT
  by_cases h : kindW x = 3
  · simp [h]
  · by_cases h2 : encOf x = none <;> simp [h, h2]
theorem pendOf_start {xs : List Int} {k : Nat} {x : Int} (h : xs[k]? = some x) : pendOf xs (-(x.fmod 10), (k : Int), 0) = triesAt k x := by
  have e : xs.getD k 0 = x := by rw [List.getD_eq_getElem?_getD, h]; rfl
  rw [triesAt_eq]
  show (_, nameT (xs.getD (k : Int).toNat 0) 0) :: (if (0 : Int) = 0 then restOf (xs.getD (k : Int).toNat 0) (k : Int).toNat else []) = _
  rw [if_pos rfl, Int.toNat_natCast, e]
theorem pend_start (xs : List Int) : ∀ (r : List Int) (k : Nat), (∀ j, r[j]? = xs[k + j]?) → (startL k r).flatMap (pendOf xs) = triesL k r
  | [], _, _ => rfl
  | x :: r, k, h => by
    have h0 : xs[k]? = some x := by have := h 0; simpa using this.symm
    show pendOf xs _ ++ (startL (k + 1) r).flatMap (pendOf xs) = triesAt k x ++ triesL (k + 1) r
    rw [pendOf_start h0, pend_start xs r (k + 1) fun j => by
      have := h (j + 1)
      rw [show k + 1 + j = k + (j + 1) by omega]
      simpa using this]
theorem start_ok (xs : List Int) : ∀ (r : List Int) (k : Nat), (∀ j, r[j]? = xs[k + j]?) → ∀ t ∈ startL k r, EntOk xs t
  | [], _, _, t, ht => by cases ht
  | x :: r, k, h, t, ht => by
    rcases List.mem_cons.mp ht with rfl | ht
    · exact ⟨k, x, by have := h 0; simpa using this.symm, .inl rfl⟩
    · exact start_ok xs r (k + 1) (fun j => by
        have := h (j + 1)
        rw [show k + 1 + j = k + (j + 1) by omega]
        simpa using this) t ht
theorem pend_rest {xs : List Int} {t : Tri} (ok : EntOk xs t) : ∀ u ∈ pendOf xs t, u = (t, nameT (xs.getD t.2.1.toNat 0) t.2.2) ∨ triLt t u.1 = true := by
  intro u hu
  rcases List.mem_cons.mp hu with rfl | hu
  · exact .inl rfl
  · right
    obtain ⟨k, x, hx, rfl | ⟨rfl, _⟩⟩ := ok
    · have e : xs.getD k 0 = x := by rw [List.getD_eq_getElem?_getD, hx]; rfl
      have hu' : u ∈ (if (0 : Int) = 0 then restOf (xs.getD (k : Int).toNat 0) (k : Int).toNat else []) := hu
      rw [if_pos rfl, Int.toNat_natCast, e] at hu'
      unfold restOf at hu'
      split at hu'
      · cases hu'
      · split at hu'
        · cases hu'
        · rw [List.mem_singleton.mp hu']
          simp only [triLt]
          rw [if_neg (by omega)]
          simp; omega
    · have hu' : u ∈ (if (1 : Int) = 0 then restOf (xs.getD (k : Int).toNat 0) (k : Int).toNat else []) := hu
      rw [if_neg (by decide)] at hu'
      cases hu'
theorem rem_head {xs : List Int} {t0 : Tri} {ts : List Tri} {rem : List Try} (h0 : EntOk xs t0) (hts : ∀ t ∈ ts, EntOk xs t ∧ triLt t t0 = false) (hp : rem.Perm ((t0 :: ts).flatMap (pendOf xs))) (hs : rem.Pairwise fun a b => triLt a.1 b.1 = true) :
    ∃ rem', rem = (t0, nameT (xs.getD t0.2.1.toNat 0) t0.2.2) :: rem' ∧ rem'.Perm ((if t0.2.2 = 0 then restOf (xs.getD t0.2.1.toNat 0) t0.2.1.toNat else []) ++ ts.flatMap (pendOf xs)) := by
  have hm : (t0, nameT (xs.getD t0.2.1.toNat 0) t0.2.2) ∈ rem := hp.mem_iff.mpr (by show _ ∈ pendOf xs t0 ++ _; exact List.mem_append.mpr (.inl (.head _)))
  cases rem with
  | nil => cases hm
  | cons r0 rem' =>
    have e : r0 = (t0, nameT (xs.getD t0.2.1.toNat 0) t0.2.2) := by
      rcases List.mem_cons.mp hm with e | hm'
      · exact e.symm
      · exfalso
        have hlt : triLt r0.1 t0 = true := (List.pairwise_cons.mp hs).1 _ hm'
        have hr0 : r0 ∈ (t0 :: ts).flatMap (pendOf xs) := hp.mem_iff.mp (.head _)
        obtain ⟨t, ht, hr⟩ := List.mem_flatMap.mp hr0
        rcases List.mem_cons.mp ht with rfl | ht
        · rcases pend_rest h0 _ hr with rfl | h
          · have := tri_asymm hlt; rw [hlt] at this; cases this
          · have := tri_asymm hlt; rw [h] at this; cases this
        · rcases pend_rest (hts t ht).1 _ hr with rfl | h
          · have := (hts t ht).2; rw [hlt] at this; cases this
          · have := (hts t ht).2; rw [tri_trans h hlt] at this; cases this
    subst e
    exact ⟨rem', rfl, hp.cons_inv⟩
theorem sat_ex {α : Type} {lt : Nat → Nat → Bool} {n : Nat} {P : α → Prop} : ∀ {t : KasT α}, Sat lt n t P → ∃ a, P a
  | .ret a, h => ⟨a, h⟩
  | .ask i j k, h => sat_ex h.2.2.2
theorem sorted_ex {ts : List Try} (hnd : (ts.map (·.1)).Nodup) (h1 : 1 ≤ ts.length) : ∃ us : List Try, us.Perm ts ∧ us.Pairwise (fun a b => triLt a.1 b.1 = true) := by
  obtain ⟨p, ok, asc⟩ := sat_ex (sort_sat (triLt_sto hnd) h1)
  refine ⟨p.toList.map fun i => ts.getD i default, ?_, ?_⟩
  · have e : ts = (List.range ts.length).map fun i => ts.getD i default := by
      apply List.ext_getElem
      · simp
      · intro i h1 h2
        simp [List.getD_eq_getElem?_getD, h1]
    exact (ok.map _).trans (e ▸ List.Perm.refl _)
  · rw [List.pairwise_iff_getElem]
    intro i j hi hj hij
    have hsz := ok.size
    simp only [List.length_map, Array.length_toList] at hi hj
    have := asc i j hij (by omega)
    rw [gA_eq hi, gA_eq hj] at this
    simpa using this
theorem sorted_uniq : ∀ {a b : List Try}, a.Perm b → a.Pairwise (fun a b => triLt a.1 b.1 = true) → b.Pairwise (fun a b => triLt a.1 b.1 = true) → a = b
  | [], b, h, _, _ => h.nil_eq
  | x :: a, b, h, ha, hb => by
    cases b with
    | nil => have := h.length_eq; simp at this
    | cons y b =>
      have e : x = y := by
        rcases List.mem_cons.mp (h.mem_iff.mp (.head _)) with e | hx
        · exact e
        · rcases List.mem_cons.mp (h.mem_iff.mpr (.head _)) with e | hy
          · exact e.symm
          · have h1 := (List.pairwise_cons.mp ha).1 _ hy
            have h2 := (List.pairwise_cons.mp hb).1 _ hx
            have := tri_asymm h1; rw [h2] at this; cases this
      subst e
      rw [sorted_uniq h.cons_inv (List.pairwise_cons.mp ha).2 (List.pairwise_cons.mp hb).2]
end Mine
end PartW5
section PartX6
open PySem PySem.W PyProof.Rows
set_option maxRecDepth 100000
set_option Elab.async false
namespace Mine
section
variable {prog : Program} {w : World} {A : Around} {E : Value → Shared → Prop} {s : Shared} {env : Env} {Q : Flow → Shared → Prop}
theorem turn_while {test : Expr} {body : List Stmt} {pos : Pos} (J : Nat → Shared → Prop) (n : Nat) (h0 : J n s)
    (turn : ∀ n s, J n s → wpAny (model prog w) A (isTrue test env (eval test env)) (fun b s₂ =>
        if b = true then wpAny (model prog w) A (execs body env) (fun f s₃ => match f with
            | .next | .cont => ∃ m, m < n ∧ J m s₃
            | .brk => Q .next s₃
            | .ret v => Q (.ret v) s₃) E s₂ else Q .next s₂) E s)
    (hE : PassesOwn (model prog w) A env E) :
    wpAny (model prog w) A (exec (.While test body [] pos) env) Q E s := by
  refine wpAny_While (codeAny_whileLoop J (fun n s hJ => ?_) n h0)
  refine wpAny_mono (turn n s hJ) (fun b s₂ p => ?_) hE
  cases b with
  | false => exact wpAny_execs_nil (by simpa using p)
  | true =>
    simp only [if_true] at p ⊢
    refine wpAny_passesOwn hE (wpAny_mono p (fun f s₃ q => ?_) fun _ _ x => x)
    cases f <;> exact q
end
theorem name_goes_X {M : Model} {A : Around} {E : Value → Shared → Prop} {s : Shared} {h₀ : Heap} {L a : Addr} {m : Str → Option Value} {name : Str} {scope : Scope} {cd : Value} {cl : List (Str × Addr)} {news : List (Addr × Obj)} {n : Str} {pos : Pos} {Q : Unit → Shared → Prop} (F : Fr h₀ L s.heap m) (N : News h₀ L s.heap news)
    (h : ∀ h' v, Fr h₀ L h' (fun x => if x = n then v else m x) → News h₀ L h' news → Q () { s with heap := h', toks := s.toks + 1 })
    (hk : scope.kind = .function := by rfl) (hl : (envX name scope L a cd cl).kindOf n = some .local := by rfl) :
    wpAny M A (do bindName (envX name scope L a cd cl) n .none; unbindBehindTheSuite (envX name scope L a cd cl) n pos) Q E s :=
  wpAny_nameGoes_keeps hl F.ns (by show (scope.kind == .class || (scope.kind == .module && L != mainGlobals)) = false; rw [hk]; rfl) fun h' v hn hs => h h' v (F.set hn hs) (N.set hs)
theorem ent_swo : Swo entLt := ⟨fun a b h => tri_asymm h, fun a b c h1 h2 => by
  unfold entLt at *
  obtain ⟨_, a1, a2, a3⟩ := a
  obtain ⟨_, b1, b2, b3⟩ := b
  obtain ⟨_, c1, c2, c3⟩ := c
  simp only [triLt] at h1 h2 ⊢
  by_cases e1 : b1 = a1 <;> by_cases e2 : b2 = a2 <;> by_cases e3 : c1 = b1 <;> by_cases e4 : c2 = b2 <;> by_cases e5 : c1 = a1 <;> by_cases e6 : c2 = a2 <;> simp_all <;> omega⟩
theorem off1_mem {D : Addr} : ∀ {l : List (Addr × Obj)}, LCg.Off1 D l → ∀ p ∈ l, p.1 ≠ D
  | [], _, _, h => nomatch h
  | _ :: _, x, p, h => by
    rcases List.mem_cons.mp h with rfl | h
    · exact x.1
    · exact off1_mem x.2 p h
structure RunInv (K : Frag) (A base : _) (fs : List Addr) (outer : List Env) (p : Program) (loose : List Str) (mean : ExcName → Option Value) (mg mb : Str → Option Value) (g : Heap) (L1 hl ll tl cA : Addr) (oc : Obj) (news : List (Addr × Obj)) (xs : List Int) (zs : List Str) (us : List Try)
    (g' h : Heap) (u : Str → Option Value) (es : List Ent) (hn : Nat) (lvs : List Value) (ln : Nat) (fz : List (Addr × Obj)) (lts rem : List Try) : Prop where
  T : KtsTurn fs g g'
  B : Below A base outer g'
  X : K.In g'
  Tp : Top p loose mean mg mb g'
  D : KtsDicts fs g'
  F : Fr g' L1 h (kstB u [((Str.ofString "heap"), .ref hl), ((Str.ofString "log"), .ref ll), ((Str.ofString "there"), .ref tl)])
  N : News g' L1 h ((cA, oc) :: (hl, listOf (es.map (·.1)).toArray hn) :: (ll, listOf lvs.toArray ln) :: (fz ++ news))
  nh : ∀ q ∈ fz, q.1 ≠ hl
  nl : ∀ q ∈ fz, q.1 ≠ ll
  dat : ∀ e ∈ es, DatIn fz e.1 (triD e.2)
  ok : ∀ e ∈ es, EntOk xs e.2
  len : es.length ≤ 12
  heap : HeapFrom entLt es 0
  log : DatAll fz lvs (lts.map logD)
  on : walkOn zs lts
  row : lts ++ rem = us
  pm : rem.Perm ((es.map (·.2)).flatMap (pendOf xs))
end Mine
end PartX6
section PartW6
open PySem PySem.W PyProof.Rows
set_option maxRecDepth 100000
set_option Elab.async false
namespace Mine
theorem heap_tail {e0 n : Ent} {er : List Ent} (h : HeapFrom entLt (e0 :: er) 0) : HeapFrom entLt (n :: er) 1 := by
  intro j h1 h2 h3
  have := h j h1 (by simpa using h2) (Nat.zero_le _)
  obtain ⟨a, ha⟩ : ∃ a, j = a + 1 := ⟨j - 1, by omega⟩
  obtain ⟨b, hb⟩ : ∃ b, (j - 1) / 2 = b + 1 := ⟨(j - 1) / 2 - 1, by omega⟩
  rw [hb, ha] at this ⊢
  simpa using this
theorem replace_spec {e0 n : Ent} {er : List Ent} (h : HeapFrom entLt (e0 :: er) 0) : HeapFrom entLt (siftup entLt (n :: er) 0) 0 ∧ (siftup entLt (n :: er) 0).Perm (n :: er) :=
  ⟨siftup_heap ent_swo (by simp) (heap_tail h), siftup_perm (by simp)⟩
theorem pop_spec {e0 l : Ent} {er fs : List Ent} (e : e0 :: er = fs ++ [l]) (h : HeapFrom entLt (e0 :: er) 0) : popTop fs l = e0 ∧ (popRest fs l).Perm er ∧ HeapFrom entLt (popRest fs l) 0 := by
  cases fs with
  | nil =>
    obtain ⟨rfl, rfl⟩ : e0 = l ∧ er = [] := by simpa using e
    exact ⟨rfl, .nil, fun j h1 h2 => by simp [popRest] at h2⟩
  | cons x r =>
    obtain ⟨rfl, rfl⟩ : e0 = x ∧ er = r ++ [l] := by simpa using e
    refine ⟨rfl, ?_, ?_⟩
    · show (siftup entLt (l :: r) 0).Perm (r ++ [l])
      exact (siftup_perm (by simp)).trans (List.perm_append_singleton l r).symm
    · show HeapFrom entLt (siftup entLt (l :: r) 0) 0
      refine siftup_heap ent_swo (by simp) ?_
      intro j h1 h2 h3
      have h2' : j < r.length + 1 := by simpa using h2
      have := h j h1 (by simp; omega) (Nat.zero_le _)
      obtain ⟨a, ha⟩ : ∃ a, j = a + 1 := ⟨j - 1, by omega⟩
      obtain ⟨b, hb⟩ : ∃ b, (j - 1) / 2 = b + 1 := ⟨(j - 1) / 2 - 1, by omega⟩
      have a1 : a < r.length := by omega
      have a2 : b < r.length := by omega
      rw [hb, ha] at this ⊢
      rw [List.getD_cons_succ, List.getD_cons_succ] at this ⊢
      simpa [List.getD_eq_getElem?_getD, List.getElem?_append_left, a1, a2] using this
theorem snoc_of {e0 : Ent} (er : List Ent) : ∃ fs l, e0 :: er = fs ++ [l] := by
  refine ⟨(e0 :: er).dropLast, (e0 :: er).getLast (by simp), ?_⟩
  exact (List.dropLast_concat_getLast _).symm
end Mine
end PartW6
section PartS12
open PySem PySem.W PyProof.Rows
set_option maxRecDepth 100000
set_option Elab.async false
namespace Mine
theorem fill12 (P : Params) : (fun (_ : OpenLaw) => nsIn (Mine.hd.heap_39 P) mainGlobals (Str.ofString "zz")) PySem.Challenge.rw_oy0031_01 = (fun (_ : OpenLaw) => nsIn (Mine.hd.heap_39 P) mainGlobals (Str.ofString "zz")) PySem.Challenge.rw_oy0031_01 := by
  k_fill
  rfl
theorem build_pair_ok {prog : Program} {w : World} {p : Program} {loose : List Str} {mean : ExcName → Option Value} {mg mb : Str → Option Value}
   {dp un : Nat} {gd : Option (List Code)} {cn : Str} {cs : Scope} {a : Addr} {ccd : Value} {cl : List (Str × Addr)} {outer : List Env} {A₀ : Around} {base h₀ : Heap} {L : Addr} {m : Str → Option Value} {s : Shared} {Q E : Value → Shared → Prop}
   (B : Below A₀ base outer h₀) (F : Fr h₀ L s.heap m) (X : (Mine.hd.heap_39 w.params).In h₀) (T : Top p loose mean mg mb h₀) (hk : cs.kind = .function) (hd : dp + 5 < recursionLimit) (hu : un + 96 < cLine)
   {news : List (Addr × Obj)} (N : News h₀ L s.heap news) {v : Value} {x : Int} (hv : DatIn news v (pairOf x)) (hk3 : kindW x ≠ 3)
   (ret : ∀ h' tk' t, Fr h₀ L h' m → News h₀ L h' news → Q (.str (nameOf (langOf x) (encOf x)) t) { s with heap := h', toks := tk' }) :
   wpAny (model prog w) (ktrTop dp un gd cn cs L a ccd cl outer) (call (.ref 21) [v]) Q E s := by
  unfold pairOf at hv
  rw [if_neg hk3] at hv
  by_cases h1 : kindW x = 1
  · rw [if_pos h1] at hv
    exact build_list_ok B F X T hk hd hu N hv (short_lang x) (short_enc x) ret
  · rw [if_neg h1] at hv
    exact build_tuple_ok B F X T hk hd hu N hv (short_lang x) (short_enc x) ret
set_option maxHeartbeats 8000000 in
theorem run_ok {prog : Program} {w : World} {p : Program} {loose : List Str} {mean : ExcName → Option Value} {mg mb : Str → Option Value}
   {dp un : Nat} {gd : Option (List Code)} {cn : Str} {cs : Scope} {a : Addr} {ccd : Value} {A₀ : Around} {base h₀ : Heap} {L : Addr} {m : Str → Option Value} {s : Shared} {Q E : Value → Shared → Prop}
   (B : Below A₀ base [] h₀) (F : Fr h₀ L s.heap m) (X : (Mine.hd.heap_39 w.params).In h₀) (T : Top p loose mean mg mb h₀) (hk : cs.kind = .function) (XB : (Mine.hd.heap_39 w.params).In base) (TB : Top p loose mean mg mb base)
   (hd : dp + 7 < recursionLimit) (hu : un + 192 < cLine)
   {news fw : List (Addr × Obj)} (N : News h₀ L s.heap news) {wl tl : Addr} {wvs tvs : List Value} {wn tn : Nat} {xs : List Int} {zs : List Str} (hwl : (wl, listOf wvs.toArray wn) ∈ news) (htl : (tl, listOf tvs.toArray tn) ∈ news) (hfw : ∀ p ∈ fw, p ∈ news)
   (hW : DatAll fw wvs (xs.map wishOf)) (hTh : DatAll [] tvs (zs.map Dat.str)) (h4 : 4 ≤ xs.length) (h12 : xs.length ≤ 12) (hz : ∀ z ∈ zs, kqdOk 8 (.str z) = true) {us : List Try} (hperm : us.Perm (triesL 0 xs)) (hpw : us.Pairwise (fun a b => triLt a.1 b.1 = true))
   (ret : ∀ h' tk' r new, Fr h₀ L h' m → News h₀ L h' (new ++ news) → DatIn new r (.list (walkLog zs us)) → Q r { s with heap := h', toks := tk' }) :
   wpAny (model prog w) (ktrTop dp un gd cn cs L a ccd [] []) (call (.ref 82) [.ref wl, .ref tl]) Q E s := by
  refine wpAny_call ?_
  have hA : (ktrTop dp un gd cn cs L a ccd [] []).frames = some [envOf cn cs L a ccd] := rfl
  (with_unfolding_all refine' code_defCS0 B F X N T hA ?k6 ?k7 ?k8 ?k9 ?kB ?kD ?_ hk ?c2 ?c3 ?c4; (case k6 => k_is); (case k7 => k_is); (case k8 => show dp < recursionLimit; omega); (case k9 => first | exact BindsTo.of_eq rfl | exact binds_K (by k_in) rfl (by k_is) rfl rfl rfl | fail "kts_go: no rule for these arguments"); (case kB => exact rfl); (case kD => decide +kernel); (case c2 => exact rfl); (case c3 => exact rfl); (case c4 => exact rfl); k_whole)
  intro g L1 h1 tk1 cells FG F1 N1 Y1 B1 X1 T1 D1 l1
  k_cells Y1
  (try simp only [List.cons_append, List.nil_append] at N1)
  (try dsimp only)
  (try k_lift B1)
  (try k_fold)
  have F1' : Fr g L1 h1 (kstB (fun _ => none) [((Str.ofString "there"), .ref tl)]) := F1
  clear F1
  rename (_ : Obj).data = _ => hcell
  rename_i oc
  have hcell' : oc.data = .cell (some (.ref wl)) := hcell
  clear hcell
  refine wpAny_execs_cons ?_
  k_dflt (refine LCg.Assign_ListComp_U (F₀ := F1') (by rfl) (by with_unfolding_all rfl) (by with_unfolding_all rfl) (by decide) (by rfl) (by decide) (by rfl) (by rfl) (by rfl) ?_)
  repeat ((first | (with_reducible show wpAny _ _ _ _ _ _) | (with_reducible show ite _ _ _)); (fail_if_success (with_reducible show wpAny _ _ (exec (PySem.Stmt.While _ _ _ _) _) _ _ _)); (fail_if_success (with_reducible show wpAny _ _ (exec (PySem.Stmt.For _ _ _ _ _) _) _ _ _)); (fail_if_success (with_reducible show wpAny _ _ (pyIter _) _ _ _)); (fail_if_success (with_reducible show wpAny _ _ (subscriptTail _ _ _ _) _ _ _)); (fail_if_success (with_reducible show wpAny _ _ (call (Value.builtin "list.append") _) _ _ _)); (fail_if_success (with_reducible show wpAny _ _ (getMethod _ _ _) _ _ _)); (fail_if_success (with_reducible show wpAny _ _ (newList _) _ _ _)); (fail_if_success (with_reducible show wpAny _ _ (newTuple _) _ _ _)); walk1; (try dsimp only))
  have hwlen : wvs.length = xs.length := by have := hW.length; simpa using this
  have hsm : Builtin.Range.rangeSize 0 (wvs.length : Int) 1 = (wvs.length : Int) := by
    unfold Builtin.Range.rangeSize
    rw [if_pos (by omega)]
    split
    · rw [Int.ediv_one]; omega
    · omega
  have hf : Builtin.Range.rangeFitsLong (wvs.length : Int) = true := by unfold Builtin.Range.rangeFitsLong; simp; omega
  refine lst_len N1 (.tail _ hwl) (by omega) ?_
  intro t7 tk7
  repeat ((first | (with_reducible show wpAny _ _ _ _ _ _) | (with_reducible show ite _ _ _)); (fail_if_success (with_reducible show wpAny _ _ (exec (PySem.Stmt.While _ _ _ _) _) _ _ _)); (fail_if_success (with_reducible show wpAny _ _ (exec (PySem.Stmt.For _ _ _ _ _) _) _ _ _)); (fail_if_success (with_reducible show wpAny _ _ (pyIter _) _ _ _)); (fail_if_success (with_reducible show wpAny _ _ (subscriptTail _ _ _ _) _ _ _)); (fail_if_success (with_reducible show wpAny _ _ (call (Value.builtin "list.append") _) _ _ _)); (fail_if_success (with_reducible show wpAny _ _ (getMethod _ _ _) _ _ _)); (fail_if_success (with_reducible show wpAny _ _ (newList _) _ _ _)); (fail_if_success (with_reducible show wpAny _ _ (newTuple _) _ _ _)); walk1; (try dsimp only))
  rename Fr _ _ _ _ => F8
  rename News _ _ _ _ => N8
  rename IsRange _ _ _ _ _ _ _ _ => hrg
  refine LCg.CompSrc.range rfl F8 N8 hrg (by simp [Builtin.Range.small, hsm, hf, show Builtin.Range.rangeFitsLong 0 = true by decide, show Builtin.Range.rangeFitsLong 1 = true by decide]) hsm (by rw [sizeLine_eq]; omega) fun g8 => ?_
  generalize hC : LCg.CompRest prog w _ _ _ _ _ _ _ _ _ _ _ _ _ = CR
  have key : ∀ k i (es : List Ent) (add : List (Addr × Obj)), i + k = wvs.length → es.map (·.2) = startL 0 (xs.take i) → (∀ e ∈ es, DatIn add e.1 (triD e.2)) → CR k i (es.map (·.1)) (add ++ (L1 + 1, oc) :: news) := by
    intro k
    induction k with
    | succ k ih =>
      intro i es add hik hes hed
      rw [← hC]
      refine LCg.CompRest.succ ?_
      rintro v I oI C oC D m₂ h tk E' ⟨tv, rfl⟩ hns hm₂ F9 N9 off ne
      obtain ⟨x, hx⟩ : ∃ x, xs[i]? = some x := ⟨xs[i]'(by omega), List.getElem?_eq_getElem _⟩
      have N10 := news_sub N9 (b := (L1 + 1, oc) :: (C, oC) :: (I, oI) :: (D, LCg.lst (es.map (·.1))) :: (add ++ ((L1 + 1, oc) :: news))) (fun p hp => by simp only [List.mem_cons, List.mem_append] at hp ⊢; grind)
      clear N9
      dsimp only
      have hmw : ∀ p ∈ news, p ∈ (L1 + 1, oc) :: (C, oC) :: (I, oI) :: (D, LCg.lst (es.map (·.1))) :: (add ++ ((L1 + 1, oc) :: news)) := fun p hp => .tail _ (.tail _ (.tail _ (.tail _ (List.mem_append.mpr (.inr (.tail _ hp))))))
      repeat ((first | (with_reducible show wpAny _ _ _ _ _ _) | (with_reducible show ite _ _ _)); (fail_if_success (with_reducible show wpAny _ _ (exec (PySem.Stmt.While _ _ _ _) _) _ _ _)); (fail_if_success (with_reducible show wpAny _ _ (exec (PySem.Stmt.For _ _ _ _ _) _) _ _ _)); (fail_if_success (with_reducible show wpAny _ _ (pyIter _) _ _ _)); (fail_if_success (with_reducible show wpAny _ _ (subscriptTail _ _ _ _) _ _ _)); (fail_if_success (with_reducible show wpAny _ _ (call (Value.builtin "list.append") _) _ _ _)); (fail_if_success (with_reducible show wpAny _ _ (getMethod _ _ _) _ _ _)); (fail_if_success (with_reducible show wpAny _ _ (newList _) _ _ _)); (fail_if_success (with_reducible show wpAny _ _ (newTuple _) _ _ _)); (fail_if_success (with_reducible show wpAny _ _ (call (Value.ref _) _) _ _ _)); (fail_if_success (with_reducible show wpAny _ _ (exec (PySem.Stmt.Try _ _ _ _ _) _) _ _ _)); (fail_if_success (with_reducible show wpAny _ _ (compareOp _ _ _) _ _ _)); walk1; (try dsimp only))
      refine menu_item N10 (hmw _ hwl) (by omega) (by omega) (by omega) ?_
      have hwx := wish_at hW hx
      rw [show ((0 : Int) + (i : Nat)).toNat = i by omega]
      generalize wvs.getD i Value.none = wv at hwx ⊢
      obtain ⟨wa, wy, pv, wn2, rfl, hwa, hpv⟩ := wish_of hwx
      repeat ((first | (with_reducible show wpAny _ _ _ _ _ _) | (with_reducible show ite _ _ _)); (fail_if_success (with_reducible show wpAny _ _ (exec (PySem.Stmt.While _ _ _ _) _) _ _ _)); (fail_if_success (with_reducible show wpAny _ _ (exec (PySem.Stmt.For _ _ _ _ _) _) _ _ _)); (fail_if_success (with_reducible show wpAny _ _ (pyIter _) _ _ _)); (fail_if_success (with_reducible show wpAny _ _ (subscriptTail _ _ _ _) _ _ _)); (fail_if_success (with_reducible show wpAny _ _ (call (Value.builtin "list.append") _) _ _ _)); (fail_if_success (with_reducible show wpAny _ _ (getMethod _ _ _) _ _ _)); (fail_if_success (with_reducible show wpAny _ _ (newList _) _ _ _)); (fail_if_success (with_reducible show wpAny _ _ (newTuple _) _ _ _)); (fail_if_success (with_reducible show wpAny _ _ (call (Value.ref _) _) _ _ _)); (fail_if_success (with_reducible show wpAny _ _ (exec (PySem.Stmt.Try _ _ _ _ _) _) _ _ _)); (fail_if_success (with_reducible show wpAny _ _ (compareOp _ _ _) _ _ _)); walk1; (try dsimp only))
      refine tup_item (vs := [.int (x.fmod 10) wy, pv, .bool (kindW x != 3)]) N10 (hmw _ (hfw _ hwa)) (by decide) (by simp) (by simp) ?_
      rw [show ([Value.int (x.fmod 10) wy, pv, Value.bool (kindW x != 3)].getD (Int.toNat 0) Value.none) = .int (x.fmod 10) wy from rfl]
      repeat ((first | (with_reducible show wpAny _ _ _ _ _ _) | (with_reducible show ite _ _ _)); (fail_if_success (with_reducible show wpAny _ _ (exec (PySem.Stmt.While _ _ _ _) _) _ _ _)); (fail_if_success (with_reducible show wpAny _ _ (exec (PySem.Stmt.For _ _ _ _ _) _) _ _ _)); (fail_if_success (with_reducible show wpAny _ _ (pyIter _) _ _ _)); (fail_if_success (with_reducible show wpAny _ _ (subscriptTail _ _ _ _) _ _ _)); (fail_if_success (with_reducible show wpAny _ _ (call (Value.builtin "list.append") _) _ _ _)); (fail_if_success (with_reducible show wpAny _ _ (getMethod _ _ _) _ _ _)); (fail_if_success (with_reducible show wpAny _ _ (newList _) _ _ _)); (fail_if_success (with_reducible show wpAny _ _ (newTuple _) _ _ _)); (fail_if_success (with_reducible show wpAny _ _ (call (Value.ref _) _) _ _ _)); (fail_if_success (with_reducible show wpAny _ _ (exec (PySem.Stmt.Try _ _ _ _ _) _) _ _ _)); (fail_if_success (with_reducible show wpAny _ _ (compareOp _ _ _) _ _ _)); walk1; (try dsimp only))
      refine tup_new F9 N10 ?_ (by rw [sizeLine_eq]; simp)
      intro T hT FT NT ltT
      repeat ((first | (with_reducible show wpAny _ _ _ _ _ _) | (with_reducible show ite _ _ _)); (fail_if_success (with_reducible show wpAny _ _ (exec (PySem.Stmt.While _ _ _ _) _) _ _ _)); (fail_if_success (with_reducible show wpAny _ _ (exec (PySem.Stmt.For _ _ _ _ _) _) _ _ _)); (fail_if_success (with_reducible show wpAny _ _ (pyIter _) _ _ _)); (fail_if_success (with_reducible show wpAny _ _ (subscriptTail _ _ _ _) _ _ _)); (fail_if_success (with_reducible show wpAny _ _ (call (Value.builtin "list.append") _) _ _ _)); (fail_if_success (with_reducible show wpAny _ _ (getMethod _ _ _) _ _ _)); (fail_if_success (with_reducible show wpAny _ _ (newList _) _ _ _)); (fail_if_success (with_reducible show wpAny _ _ (newTuple _) _ _ _)); (fail_if_success (with_reducible show wpAny _ _ (call (Value.ref _) _) _ _ _)); (fail_if_success (with_reducible show wpAny _ _ (exec (PySem.Stmt.Try _ _ _ _ _) _) _ _ _)); (fail_if_success (with_reducible show wpAny _ _ (compareOp _ _ _) _ _ _)); walk1; (try dsimp only))
      obtain ⟨oT, hoT, NT'⟩ : ∃ oT, oT = ({ cls := .type "tuple", data := .seq _ } : Obj) ∧ News g L1 hT ((T, oT) :: (L1 + 1, oc) :: (C, oC) :: (I, oI) :: (D, LCg.lst (es.map (·.1))) :: (add ++ ((L1 + 1, oc) :: news))) := ⟨_, rfl, NT⟩
      refine LCg.CompEnd.intro FT NT' ([(T, oT)] ++ (add ++ (L1 + 1, oc) :: news)) ?_ ?_ trivial ?_
      · intro p hp; simp only [List.mem_cons, List.mem_append] at hp ⊢; grind
      · refine ⟨⟨?_, ?_, ?_⟩, off⟩
        · exact Nat.ne_of_gt (ltT (I, oI) (.tail _ (.tail _ (.head _))))
        · exact Nat.ne_of_gt (ltT (C, oC) (.tail _ (.head _)))
        · exact Nat.ne_of_gt (ltT (D, LCg.lst (es.map (·.1))) (.tail _ (.tail _ (.tail _ (.head _)))))
      · have := ih (i + 1) (es ++ [(.ref T, (-(x.fmod 10), (i : Int), 0))]) ([(T, oT)] ++ add) (by omega) (by rw [List.map_append, hes, startL_take hx]; rfl) (fun e he => by
          rcases List.mem_append.mp he with he | he
          · exact DatIn.mono (fun q hq => .tail _ hq) (hed e he)
          · rw [List.mem_singleton.mp he]
            subst hoT
            rw [Int.zero_add]
            exact .tuple (.head _) (.cons (.int _ _) (.cons (.int _ _) (.cons (.int _ _) .nil))))
        rw [List.map_append, ← hC] at this
        exact this
    | zero =>
      intro i es add hik hes hed
      rw [← hC]
      refine LCg.CompRest.zero ?_
      intro hl h tk F9 N9 off
      dsimp only at F9 ⊢
      have e0 : i = xs.length := by omega
      rw [e0, List.take_length] at hes
      have N10 := news_sub N9 (b := (L1 + 1, oc) :: (hl, listOf (es.map (·.1)).toArray (es.map (·.1)).length) :: (add ++ news)) (fun p hp => by simp only [List.mem_cons, List.mem_append] at hp ⊢; grind)
      clear N9
      clear hC CR
      have hel : es.length = xs.length := by
        have := congrArg List.length hes
        rw [List.length_map, startL_len] at this; exact this
      have N11 := news_sub N10 (b := (hl, listOf (es.map (·.1)).toArray (es.map (·.1)).length) :: ((L1 + 1, oc) :: (add ++ news))) (fun p hp => by simp only [List.mem_cons, List.mem_append] at hp ⊢; grind)
      clear N10 N8
      have hoff := off1_mem off
      repeat ((first | (with_reducible show wpAny _ _ _ _ _ _) | (with_reducible show ite _ _ _)); (fail_if_success (with_reducible show wpAny _ _ (exec (PySem.Stmt.While _ _ _ _) _) _ _ _)); (fail_if_success (with_reducible show wpAny _ _ (exec (PySem.Stmt.For _ _ _ _ _) _) _ _ _)); (fail_if_success (with_reducible show wpAny _ _ (pyIter _) _ _ _)); (fail_if_success (with_reducible show wpAny _ _ (subscriptTail _ _ _ _) _ _ _)); (fail_if_success (with_reducible show wpAny _ _ (call (Value.builtin "list.append") _) _ _ _)); (fail_if_success (with_reducible show wpAny _ _ (getMethod _ _ _) _ _ _)); (fail_if_success (with_reducible show wpAny _ _ (newList _) _ _ _)); (fail_if_success (with_reducible show wpAny _ _ (newTuple _) _ _ _)); (fail_if_success (with_reducible show wpAny _ _ (call (Value.ref _) _) _ _ _)); (fail_if_success (with_reducible show wpAny _ _ (exec (PySem.Stmt.Try _ _ _ _ _) _) _ _ _)); (fail_if_success (with_reducible show wpAny _ _ (compareOp _ _ _) _ _ _)); walk1; (try dsimp only))
      refine ⟨X1.keeps F9.keep, ?_⟩
      k_dflt (refine heapify_ok (hl := hl) (es := es) (rest := (L1 + 1, oc) :: (add ++ news)) B1 F9 X1 T1 rfl ?_ ?_ N11 ?_ ?_ ?_ ?_)
      · ktr_room
      · ktr_units
      · intro q hq; exact hoff q (by simp only [List.mem_cons, List.mem_append] at hq ⊢; grind)
      · intro e he; exact DatIn.mono (fun q hq => .tail _ (List.mem_append.mpr (.inl hq))) (hed e he)
      · omega
      intro h10 tk10 F10 N12
      have hp10 := hfy_perm (lt := entLt) (es.length / 2) es (by omega)
      have hh10 := hfy_heap_all ent_swo es
      generalize hfy entLt (es.length / 2) es = es1 at N12 hp10 hh10
      clear N11 F9
      repeat ((first | (with_reducible show wpAny _ _ _ _ _ _) | (with_reducible show ite _ _ _)); (fail_if_success (with_reducible show wpAny _ _ (exec (PySem.Stmt.While _ _ _ _) _) _ _ _)); (fail_if_success (with_reducible show wpAny _ _ (exec (PySem.Stmt.For _ _ _ _ _) _) _ _ _)); (fail_if_success (with_reducible show wpAny _ _ (pyIter _) _ _ _)); (fail_if_success (with_reducible show wpAny _ _ (subscriptTail _ _ _ _) _ _ _)); (fail_if_success (with_reducible show wpAny _ _ (call (Value.builtin "list.append") _) _ _ _)); (fail_if_success (with_reducible show wpAny _ _ (getMethod _ _ _) _ _ _)); (fail_if_success (with_reducible show wpAny _ _ (newList _) _ _ _)); (fail_if_success (with_reducible show wpAny _ _ (newTuple _) _ _ _)); (fail_if_success (with_reducible show wpAny _ _ (call (Value.ref _) _) _ _ _)); (fail_if_success (with_reducible show wpAny _ _ (exec (PySem.Stmt.Try _ _ _ _ _) _) _ _ _)); (fail_if_success (with_reducible show wpAny _ _ (compareOp _ _ _) _ _ _)); walk1; (try dsimp only))
      refine lst_new F10 N12 ?_ (by rw [sizeLine_eq]; simp)
      intro ll h13 F13 N13 lt13
      clear N12 F10
      repeat ((first | (with_reducible show wpAny _ _ _ _ _ _) | (with_reducible show ite _ _ _)); (fail_if_success (with_reducible show wpAny _ _ (exec (PySem.Stmt.While _ _ _ _) _) _ _ _)); (fail_if_success (with_reducible show wpAny _ _ (exec (PySem.Stmt.For _ _ _ _ _) _) _ _ _)); (fail_if_success (with_reducible show wpAny _ _ (pyIter _) _ _ _)); (fail_if_success (with_reducible show wpAny _ _ (subscriptTail _ _ _ _) _ _ _)); (fail_if_success (with_reducible show wpAny _ _ (call (Value.builtin "list.append") _) _ _ _)); (fail_if_success (with_reducible show wpAny _ _ (getMethod _ _ _) _ _ _)); (fail_if_success (with_reducible show wpAny _ _ (newList _) _ _ _)); (fail_if_success (with_reducible show wpAny _ _ (newTuple _) _ _ _)); (fail_if_success (with_reducible show wpAny _ _ (call (Value.ref _) _) _ _ _)); (fail_if_success (with_reducible show wpAny _ _ (exec (PySem.Stmt.Try _ _ _ _ _) _) _ _ _)); (fail_if_success (with_reducible show wpAny _ _ (compareOp _ _ _) _ _ _)); walk1; (try dsimp only))
      rename Fr _ _ _ _ => F14
      rename News _ _ _ _ => N14
      have hn1 : ∀ q ∈ add ++ news, q.1 ≠ hl := fun q hq => hoff q (by simp only [List.mem_cons, List.mem_append] at hq ⊢; grind)
      have hn2 : ∀ q ∈ add ++ news, q.1 ≠ ll := fun q hq => Nat.ne_of_lt (lt13 q (.tail _ (.tail _ hq)))
      have hc1 : L1 + 1 ≠ hl := hoff (L1 + 1, oc) (by simp)
      have hc2 : L1 + 1 ≠ ll := Nat.ne_of_lt (lt13 (L1 + 1, oc) (.tail _ (.head _)))
      have hlh : hl ≠ ll := Nat.ne_of_lt (lt13 (hl, _) (.head _))
      have hi0 : RunInv (Mine.hd.heap_39 w.params) (ktrTop dp un gd cn cs L a ccd [] []) base ([envOf cn cs L a ccd].filterMap (·.frame)) [envOf cn cs L a ccd] p loose mean mg mb g L1 hl ll tl (L1 + 1) oc news xs zs us
          g _ _ es1 (es.map (·.1)).length [] 0 add [] us := {
        T := KtsTurn.refl, B := B1, X := X1, Tp := T1, D := D1
        F := fr_k F14 (by kst_all)
        N := news_sub N14 (fun q hq => by simp only [List.mem_cons, List.mem_append] at hq ⊢; grind)
        nh := fun q hq => hn1 q (List.mem_append.mpr (.inl hq))
        nl := fun q hq => hn2 q (List.mem_append.mpr (.inl hq))
        dat := fun e he => hed e (hp10.mem_iff.mp he)
        ok := fun e he => start_ok xs xs 0 (fun j => by rw [Nat.zero_add]) e.2 (by rw [← hes]; exact List.mem_map.mpr ⟨e, hp10.mem_iff.mp he, rfl⟩)
        len := by rw [hp10.length_eq]; omega
        heap := hh10
        log := .nil
        on := fun t ht => nomatch ht
        row := rfl
        pm := by
          refine hperm.trans ?_
          rw [← pend_start xs xs 0 (fun j => by rw [Nat.zero_add]), ← hes]
          exact ((hp10.map _).flatMap_right _).symm }
      refine turn_while (fun n s' => ∃ g' h tk u es hn lvs ln fz lts rem, s' = { s with heap := h, toks := tk } ∧ n = rem.length ∧ RunInv (Mine.hd.heap_39 w.params) (ktrTop dp un gd cn cs L a ccd [] []) base ([envOf cn cs L a ccd].filterMap (·.frame)) [envOf cn cs L a ccd] p loose mean mg mb g L1 hl ll tl (L1 + 1) oc news xs zs us
          g' h u es hn lvs ln fz lts rem) us.length ⟨g, _, _, _, es1, _, [], 0, add, [], us, rfl, rfl, hi0⟩ ?_ (by passes_own)
      have hn1' : ∀ q ∈ news, q.1 ≠ hl := fun q hq => hn1 q (List.mem_append.mpr (.inr hq))
      have hn2' : ∀ q ∈ news, q.1 ≠ ll := fun q hq => hn2 q (List.mem_append.mpr (.inr hq))
      clear hi0 hn1 hn2 hoff off lt13 F14 N14 hed hes hel hp10 hh10
      rintro n s' ⟨g', h, tk, u, es, hn, lvs, ln, fz, lts, rem, rfl, rfl, I⟩
      clear B1 X1 T1 D1
      have B1 := I.B
      have X1 := I.X
      have T1 := I.Tp
      have D1 := I.D
      have F1 := I.F
      have N1 := I.N
      cases es with
      | nil =>
        repeat ((first | (with_reducible show wpAny _ _ _ _ _ _) | (with_reducible show ite _ _ _)); (fail_if_success (with_reducible show wpAny _ _ (exec (PySem.Stmt.While _ _ _ _) _) _ _ _)); (fail_if_success (with_reducible show wpAny _ _ (exec (PySem.Stmt.For _ _ _ _ _) _) _ _ _)); (fail_if_success (with_reducible show wpAny _ _ (pyIter _) _ _ _)); (fail_if_success (with_reducible show wpAny _ _ (subscriptTail _ _ _ _) _ _ _)); (fail_if_success (with_reducible show wpAny _ _ (call (Value.builtin "list.append") _) _ _ _)); (fail_if_success (with_reducible show wpAny _ _ (getMethod _ _ _) _ _ _)); (fail_if_success (with_reducible show wpAny _ _ (newList _) _ _ _)); (fail_if_success (with_reducible show wpAny _ _ (newTuple _) _ _ _)); (fail_if_success (with_reducible show wpAny _ _ (call (Value.ref _) _) _ _ _)); (fail_if_success (with_reducible show wpAny _ _ (exec (PySem.Stmt.Try _ _ _ _ _) _) _ _ _)); (fail_if_success (with_reducible show wpAny _ _ (compareOp _ _ _) _ _ _)); walk1; (try dsimp only))
        refine wpAny_truthy_list (items := #[]) ⟨_, (N1 _ (.tail _ (.head _))).1, rfl, hn, rfl⟩ (by decide) ?_
        repeat ((first | (with_reducible show wpAny _ _ _ _ _ _) | (with_reducible show ite _ _ _)); (fail_if_success (with_reducible show wpAny _ _ (exec (PySem.Stmt.While _ _ _ _) _) _ _ _)); (fail_if_success (with_reducible show wpAny _ _ (exec (PySem.Stmt.For _ _ _ _ _) _) _ _ _)); (fail_if_success (with_reducible show wpAny _ _ (pyIter _) _ _ _)); (fail_if_success (with_reducible show wpAny _ _ (subscriptTail _ _ _ _) _ _ _)); (fail_if_success (with_reducible show wpAny _ _ (call (Value.builtin "list.append") _) _ _ _)); (fail_if_success (with_reducible show wpAny _ _ (getMethod _ _ _) _ _ _)); (fail_if_success (with_reducible show wpAny _ _ (newList _) _ _ _)); (fail_if_success (with_reducible show wpAny _ _ (newTuple _) _ _ _)); (fail_if_success (with_reducible show wpAny _ _ (call (Value.ref _) _) _ _ _)); (fail_if_success (with_reducible show wpAny _ _ (exec (PySem.Stmt.Try _ _ _ _ _) _) _ _ _)); (fail_if_success (with_reducible show wpAny _ _ (compareOp _ _ _) _ _ _)); walk1; (try dsimp only))
        refine tup_new F1 N1 ?_ (by rw [sizeLine_eq]; simp)
        intro Tn h15 F15 N15 lt15
        repeat ((first | (with_reducible show wpAny _ _ _ _ _ _) | (with_reducible show ite _ _ _)); (fail_if_success (with_reducible show wpAny _ _ (exec (PySem.Stmt.While _ _ _ _) _) _ _ _)); (fail_if_success (with_reducible show wpAny _ _ (exec (PySem.Stmt.For _ _ _ _ _) _) _ _ _)); (fail_if_success (with_reducible show wpAny _ _ (pyIter _) _ _ _)); (fail_if_success (with_reducible show wpAny _ _ (subscriptTail _ _ _ _) _ _ _)); (fail_if_success (with_reducible show wpAny _ _ (call (Value.builtin "list.append") _) _ _ _)); (fail_if_success (with_reducible show wpAny _ _ (getMethod _ _ _) _ _ _)); (fail_if_success (with_reducible show wpAny _ _ (newList _) _ _ _)); (fail_if_success (with_reducible show wpAny _ _ (newTuple _) _ _ _)); (fail_if_success (with_reducible show wpAny _ _ (call (Value.ref _) _) _ _ _)); (fail_if_success (with_reducible show wpAny _ _ (exec (PySem.Stmt.Try _ _ _ _ _) _) _ _ _)); (fail_if_success (with_reducible show wpAny _ _ (compareOp _ _ _) _ _ _)); walk1; (try dsimp only))
        refine ⟨X1.keeps F15.keep, ?_⟩
        k_dflt (refine build_tuple_ok (l := none) (e := none) B1 F15 X1 T1 rfl ?_ ?_ N15 (.tuple (.head _) (.cons .none (.cons .none .nil))) short_none short_none ?_)
        · ktr_room
        · ktr_units
        intro h16 tk16 t16 F16 N16
        repeat ((first | (with_reducible show wpAny _ _ _ _ _ _) | (with_reducible show ite _ _ _)); (fail_if_success (with_reducible show wpAny _ _ (exec (PySem.Stmt.While _ _ _ _) _) _ _ _)); (fail_if_success (with_reducible show wpAny _ _ (exec (PySem.Stmt.For _ _ _ _ _) _) _ _ _)); (fail_if_success (with_reducible show wpAny _ _ (pyIter _) _ _ _)); (fail_if_success (with_reducible show wpAny _ _ (subscriptTail _ _ _ _) _ _ _)); (fail_if_success (with_reducible show wpAny _ _ (call (Value.builtin "list.append") _) _ _ _)); (fail_if_success (with_reducible show wpAny _ _ (getMethod _ _ _) _ _ _)); (fail_if_success (with_reducible show wpAny _ _ (newList _) _ _ _)); (fail_if_success (with_reducible show wpAny _ _ (newTuple _) _ _ _)); (fail_if_success (with_reducible show wpAny _ _ (call (Value.ref _) _) _ _ _)); (fail_if_success (with_reducible show wpAny _ _ (exec (PySem.Stmt.Try _ _ _ _ _) _) _ _ _)); (fail_if_success (with_reducible show wpAny _ _ (compareOp _ _ _) _ _ _)); walk1; (try dsimp only))
        refine lst_new F16 N16 ?_ (by rw [sizeLine_eq]; simp)
        intro l9 h26 F26 N26 lt26
        repeat ((first | (with_reducible show wpAny _ _ _ _ _ _) | (with_reducible show ite _ _ _)); (fail_if_success (with_reducible show wpAny _ _ (exec (PySem.Stmt.While _ _ _ _) _) _ _ _)); (fail_if_success (with_reducible show wpAny _ _ (exec (PySem.Stmt.For _ _ _ _ _) _) _ _ _)); (fail_if_success (with_reducible show wpAny _ _ (pyIter _) _ _ _)); (fail_if_success (with_reducible show wpAny _ _ (subscriptTail _ _ _ _) _ _ _)); (fail_if_success (with_reducible show wpAny _ _ (call (Value.builtin "list.append") _) _ _ _)); (fail_if_success (with_reducible show wpAny _ _ (getMethod _ _ _) _ _ _)); (fail_if_success (with_reducible show wpAny _ _ (newList _) _ _ _)); (fail_if_success (with_reducible show wpAny _ _ (newTuple _) _ _ _)); (fail_if_success (with_reducible show wpAny _ _ (call (Value.ref _) _) _ _ _)); (fail_if_success (with_reducible show wpAny _ _ (exec (PySem.Stmt.Try _ _ _ _ _) _) _ _ _)); (fail_if_success (with_reducible show wpAny _ _ (compareOp _ _ _) _ _ _)); walk1; (try dsimp only))
        have hrem : rem = [] := by have := I.pm; simpa using this
        have hlts : lts = us := by have := I.row; rw [hrem, List.append_nil] at this; exact this
        have hll : lvs.length = us.length := by have := I.log.length; rw [hlts] at this; simpa using this
        have hul : us.length ≤ 24 := by have h1 := hperm.length_eq; have h2 := triesL_len xs 0; omega
        refine kmk_add_lit (its := lvs.toArray) (its2 := [Value.str (nameOf none none) t16].toArray) (zs := lvs ++ [Value.str (nameOf none none) t16]) F26 N26 ⟨_, (N26 _ (.tail _ (.tail _ (.tail _ (.tail _ (.head _)))))).1, rfl, ln, rfl⟩ ⟨_, (N26 _ (.head _)).1, rfl, 0, rfl⟩ (by simp) ?_ (by rw [sizeLine_eq]; simp; omega)
        intro D9 h27 F27 N27 lt27
        try dsimp only
        refine leaveS0_ F27 N27 I.T fun F6 N6 => ret _ _ _ ((D9, listOf (lvs ++ [Value.str (nameOf none none) t16]).toArray 0) :: fz) F6 (news_sub N6 fun p hp => ?_) ?_
        · simp only [List.mem_cons, List.mem_append, List.cons_append] at hp ⊢; grind
        · have e := walkLog_on (us := []) I.on
          rw [List.append_nil] at e
          rw [← hlts, e]
          refine .list (.head _) ?_
          exact (I.log.mono fun q hq => .tail _ hq).append (.cons (.str _ _) .nil)
      | cons e0 er =>
        repeat ((first | (with_reducible show wpAny _ _ _ _ _ _) | (with_reducible show ite _ _ _)); (fail_if_success (with_reducible show wpAny _ _ (exec (PySem.Stmt.While _ _ _ _) _) _ _ _)); (fail_if_success (with_reducible show wpAny _ _ (exec (PySem.Stmt.For _ _ _ _ _) _) _ _ _)); (fail_if_success (with_reducible show wpAny _ _ (pyIter _) _ _ _)); (fail_if_success (with_reducible show wpAny _ _ (subscriptTail _ _ _ _) _ _ _)); (fail_if_success (with_reducible show wpAny _ _ (call (Value.builtin "list.append") _) _ _ _)); (fail_if_success (with_reducible show wpAny _ _ (getMethod _ _ _) _ _ _)); (fail_if_success (with_reducible show wpAny _ _ (newList _) _ _ _)); (fail_if_success (with_reducible show wpAny _ _ (newTuple _) _ _ _)); (fail_if_success (with_reducible show wpAny _ _ (call (Value.ref _) _) _ _ _)); (fail_if_success (with_reducible show wpAny _ _ (exec (PySem.Stmt.Try _ _ _ _ _) _) _ _ _)); (fail_if_success (with_reducible show wpAny _ _ (compareOp _ _ _) _ _ _)); walk1; (try dsimp only))
        refine wpAny_truthy_list (items := ((e0 :: er).map (·.1)).toArray) ⟨_, (N1 _ (.tail _ (.head _))).1, rfl, hn, rfl⟩ (by have := I.len; simp at this ⊢; omega) ?_
        rw [show (!((e0 :: er).map (·.1)).toArray.isEmpty) = true by simp, if_pos rfl]
        have hle := I.len
        have hd0 := I.dat e0 (.head _)
        have hk0 := I.ok e0 (.head _)
        obtain ⟨ev, ⟨r1, r2, r3⟩⟩ := e0
        obtain ⟨ea, y1, y2, y3, en, hev, hem⟩ := tri_of hd0
        dsimp only at hev hem
        repeat ((first | (with_reducible show wpAny _ _ _ _ _ _) | (with_reducible show ite _ _ _)); (fail_if_success (with_reducible show wpAny _ _ (exec (PySem.Stmt.While _ _ _ _) _) _ _ _)); (fail_if_success (with_reducible show wpAny _ _ (exec (PySem.Stmt.For _ _ _ _ _) _) _ _ _)); (fail_if_success (with_reducible show wpAny _ _ (pyIter _) _ _ _)); (fail_if_success (with_reducible show wpAny _ _ (subscriptTail _ _ _ _) _ _ _)); (fail_if_success (with_reducible show wpAny _ _ (call (Value.builtin "list.append") _) _ _ _)); (fail_if_success (with_reducible show wpAny _ _ (getMethod _ _ _) _ _ _)); (fail_if_success (with_reducible show wpAny _ _ (newList _) _ _ _)); (fail_if_success (with_reducible show wpAny _ _ (newTuple _) _ _ _)); (fail_if_success (with_reducible show wpAny _ _ (call (Value.ref _) _) _ _ _)); (fail_if_success (with_reducible show wpAny _ _ (exec (PySem.Stmt.Try _ _ _ _ _) _) _ _ _)); (fail_if_success (with_reducible show wpAny _ _ (compareOp _ _ _) _ _ _)); walk1; (try dsimp only))
        refine ent_item (es := (ev, (r1, r2, r3)) :: er) N1 (.tail _ (.head _)) 0 rfl (by simp) (by omega) ?_
        rw [List.getD_cons_zero]
        dsimp only
        subst hev
        have N2 := news_sub N1 (b := (L1 + 1, oc) :: (ea, _) :: (hl, listOf (((Value.ref ea, (r1, r2, r3)) :: er).map (·.1)).toArray hn) :: (ll, listOf lvs.toArray ln) :: (fz ++ news)) (fun q hq => by
          rcases List.mem_cons.mp hq with rfl | hq
          · exact .head _
          · rcases List.mem_cons.mp hq with rfl | hq
            · exact .tail _ (.tail _ (.tail _ (List.mem_append.mpr (.inl hem))))
            · exact .tail _ hq)
        clear N1
        obtain ⟨k, x, hx, hcase⟩ := hk0
        have hr2 : r2 = (k : Int) := by rcases hcase with h | ⟨h, _⟩ <;> (cases h; rfl)
        subst hr2
        have hkl : k < xs.length := (List.getElem?_eq_some_iff.mp hx).1
        repeat ((first | (with_reducible show wpAny _ _ _ _ _ _) | (with_reducible show ite _ _ _)); (fail_if_success (with_reducible show wpAny _ _ (exec (PySem.Stmt.While _ _ _ _) _) _ _ _)); (fail_if_success (with_reducible show wpAny _ _ (exec (PySem.Stmt.For _ _ _ _ _) _) _ _ _)); (fail_if_success (with_reducible show wpAny _ _ (pyIter _) _ _ _)); (fail_if_success (with_reducible show wpAny _ _ (subscriptTail _ _ _ _) _ _ _)); (fail_if_success (with_reducible show wpAny _ _ (call (Value.builtin "list.append") _) _ _ _)); (fail_if_success (with_reducible show wpAny _ _ (getMethod _ _ _) _ _ _)); (fail_if_success (with_reducible show wpAny _ _ (newList _) _ _ _)); (fail_if_success (with_reducible show wpAny _ _ (newTuple _) _ _ _)); (fail_if_success (with_reducible show wpAny _ _ (call (Value.ref _) _) _ _ _)); (fail_if_success (with_reducible show wpAny _ _ (exec (PySem.Stmt.Try _ _ _ _ _) _) _ _ _)); (fail_if_success (with_reducible show wpAny _ _ (compareOp _ _ _) _ _ _)); walk1; (try dsimp only))
        rename Fr _ _ _ _ => F3
        rename News _ _ _ _ => N3
        have hmn : ∀ q ∈ news, q ∈ (L1 + 1, oc) :: (ea, ({ cls := .type "tuple", data := .seq #[.int r1 y1, .int (k : Int) y2, .int r3 y3] en } : Obj)) :: (hl, listOf (((Value.ref ea, (r1, (k : Int), r3)) :: er).map (·.1)).toArray hn) :: (ll, listOf lvs.toArray ln) :: (fz ++ news) := fun q hq => .tail _ (.tail _ (.tail _ (.tail _ (List.mem_append.mpr (.inr hq)))))
        refine menu_item N3 (hmn _ hwl) (by omega) (by omega) (by omega) ?_
        have hwx := wish_at hW hx
        rw [show ((k : Nat) : Int).toNat = k by omega]
        generalize wvs.getD k Value.none = wv at hwx ⊢
        obtain ⟨wa, wy, pv, wn2, rfl, hwa, hpv⟩ := wish_of hwx
        repeat ((first | (with_reducible show wpAny _ _ _ _ _ _) | (with_reducible show ite _ _ _)); (fail_if_success (with_reducible show wpAny _ _ (exec (PySem.Stmt.While _ _ _ _) _) _ _ _)); (fail_if_success (with_reducible show wpAny _ _ (exec (PySem.Stmt.For _ _ _ _ _) _) _ _ _)); (fail_if_success (with_reducible show wpAny _ _ (pyIter _) _ _ _)); (fail_if_success (with_reducible show wpAny _ _ (subscriptTail _ _ _ _) _ _ _)); (fail_if_success (with_reducible show wpAny _ _ (call (Value.builtin "list.append") _) _ _ _)); (fail_if_success (with_reducible show wpAny _ _ (getMethod _ _ _) _ _ _)); (fail_if_success (with_reducible show wpAny _ _ (newList _) _ _ _)); (fail_if_success (with_reducible show wpAny _ _ (newTuple _) _ _ _)); (fail_if_success (with_reducible show wpAny _ _ (call (Value.ref _) _) _ _ _)); (fail_if_success (with_reducible show wpAny _ _ (exec (PySem.Stmt.Try _ _ _ _ _) _) _ _ _)); (fail_if_success (with_reducible show wpAny _ _ (compareOp _ _ _) _ _ _)); walk1; (try dsimp only))
        refine tup_item (vs := [.int (x.fmod 10) wy, pv, .bool (kindW x != 3)]) N3 (hmn _ (hfw _ hwa)) (by decide) (by simp) (by simp) ?_
        rw [show ([Value.int (x.fmod 10) wy, pv, Value.bool (kindW x != 3)].getD (Int.toNat 1) Value.none) = pv from rfl]
        repeat ((first | (with_reducible show wpAny _ _ _ _ _ _) | (with_reducible show ite _ _ _)); (fail_if_success (with_reducible show wpAny _ _ (exec (PySem.Stmt.While _ _ _ _) _) _ _ _)); (fail_if_success (with_reducible show wpAny _ _ (exec (PySem.Stmt.For _ _ _ _ _) _) _ _ _)); (fail_if_success (with_reducible show wpAny _ _ (pyIter _) _ _ _)); (fail_if_success (with_reducible show wpAny _ _ (subscriptTail _ _ _ _) _ _ _)); (fail_if_success (with_reducible show wpAny _ _ (call (Value.builtin "list.append") _) _ _ _)); (fail_if_success (with_reducible show wpAny _ _ (getMethod _ _ _) _ _ _)); (fail_if_success (with_reducible show wpAny _ _ (newList _) _ _ _)); (fail_if_success (with_reducible show wpAny _ _ (newTuple _) _ _ _)); (fail_if_success (with_reducible show wpAny _ _ (call (Value.ref _) _) _ _ _)); (fail_if_success (with_reducible show wpAny _ _ (exec (PySem.Stmt.Try _ _ _ _ _) _) _ _ _)); (fail_if_success (with_reducible show wpAny _ _ (compareOp _ _ _) _ _ _)); walk1; (try dsimp only))
        rename Fr _ _ _ _ => F4
        rename News _ _ _ _ => N4
        skip
        refine wpAny_mono (Q := fun f s' => f = .next ∧ ∃ g2 h2 tk2 u2 nt ag, s' = { s with heap := h2, toks := tk2 } ∧ KtsTurn ([envOf cn cs L a ccd].filterMap (·.frame)) g g2 ∧ Below (ktrTop dp un gd cn cs L a ccd [] []) base [envOf cn cs L a ccd] g2 ∧ (Mine.hd.heap_39 w.params).In g2 ∧ Top p loose mean mg mb g2 ∧ KtsDicts ([envOf cn cs L a ccd].filterMap (·.frame)) g2 ∧
            Fr g2 L1 h2 (kstB u2 [((Str.ofString "heap"), .ref hl), ((Str.ofString "log"), .ref ll), ((Str.ofString "there"), .ref tl), ((Str.ofString "rank"), .int r1 y1), ((Str.ofString "k"), .int (k : Int) y2), ((Str.ofString "name"), .str (nameT x r3) nt), ((Str.ofString "again"), .bool ag)]) ∧
            News g2 L1 h2 ((L1 + 1, oc) :: (ea, ({ cls := .type "tuple", data := .seq #[.int r1 y1, .int (k : Int) y2, .int r3 y3] en } : Obj)) :: (hl, listOf (((Value.ref ea, (r1, (k : Int), r3)) :: er).map (·.1)).toArray hn) :: (ll, listOf lvs.toArray ln) :: (fz ++ news)) ∧ (ag = true ↔ r3 = 0 ∧ kindW x ≠ 3 ∧ encOf x ≠ none)) ?tryA ?afterA (fun _ _ h => h)
        case afterA =>
          rintro f s2 ⟨rfl, g2, h2, tk2, u2, nt, ag, rfl, T2, B2, X2, P2, D2, F2, N2, hag⟩
          have hgx : xs.getD k 0 = x := by rw [List.getD_eq_getElem?_getD, hx]; rfl
          have hmin : ∀ e ∈ er, EntOk xs e.2 ∧ triLt e.2 (r1, (k : Int), r3) = false := fun e he => by
            refine ⟨I.ok e (.tail _ he), ?_⟩
            obtain ⟨i, hi, e'⟩ := List.getElem_of_mem he
            have := heap_min ent_swo I.heap (i + 1) (by simpa using hi)
            rw [List.getD_cons_succ, List.getD_cons_zero, List.getD_eq_getElem?_getD, List.getElem?_eq_getElem hi, Option.getD_some, e'] at this
            exact this
          have hpr : rem.Pairwise (fun a b => triLt a.1 b.1 = true) := by
            have := hpw; rw [← I.row] at this; exact (List.pairwise_append.mp this).2.1
          obtain ⟨rem', hrem, hpm⟩ := rem_head (t0 := (r1, (k : Int), r3)) (ts := er.map (·.2)) ⟨k, x, hx, hcase⟩ (fun t ht => by obtain ⟨e, he, rfl⟩ := List.mem_map.mp ht; exact hmin e he) I.pm hpr
          rw [Int.toNat_natCast, hgx] at hrem hpm
          have hnok : kqdOk 8 (.str (nameT x r3)) = true := triesL_ok (xs := xs) (k := 0) (t := ((r1, (k : Int), r3), nameT x r3)) (hperm.mem_iff.mp (by rw [← I.row, hrem]; simp))
          have hheap := I.heap
          have hdat := I.dat
          have hok := I.ok
          clear B1 X1 T1 D1
          dsimp only
          obtain ⟨fs, fl, hfs⟩ := snoc_of (e0 := (Value.ref ea, (r1, (k : Int), r3))) er
          cases ag with
          | false =>
            repeat ((first | (with_reducible show wpAny _ _ _ _ _ _) | (with_reducible show ite _ _ _)); (fail_if_success (with_reducible show wpAny _ _ (exec (PySem.Stmt.While _ _ _ _) _) _ _ _)); (fail_if_success (with_reducible show wpAny _ _ (exec (PySem.Stmt.For _ _ _ _ _) _) _ _ _)); (fail_if_success (with_reducible show wpAny _ _ (pyIter _) _ _ _)); (fail_if_success (with_reducible show wpAny _ _ (subscriptTail _ _ _ _) _ _ _)); (fail_if_success (with_reducible show wpAny _ _ (call (Value.builtin "list.append") _) _ _ _)); (fail_if_success (with_reducible show wpAny _ _ (getMethod _ _ _) _ _ _)); (fail_if_success (with_reducible show wpAny _ _ (newList _) _ _ _)); (fail_if_success (with_reducible show wpAny _ _ (newTuple _) _ _ _)); (fail_if_success (with_reducible show wpAny _ _ (call (Value.ref _) _) _ _ _)); (fail_if_success (with_reducible show wpAny _ _ (exec (PySem.Stmt.Try _ _ _ _ _) _) _ _ _)); (fail_if_success (with_reducible show wpAny _ _ (compareOp _ _ _) _ _ _)); walk1; (try dsimp only))
            rename Fr _ _ _ _ => Fp
            rename News _ _ _ _ => Np
            refine listMethod_K (its := lvs.toArray) (n := ln) Np (.tail _ (.tail _ (.tail _ (.head _)))) PySem.F.slot_list_append PySem.F.type_list_append ?_
            repeat ((first | (with_reducible show wpAny _ _ _ _ _ _) | (with_reducible show ite _ _ _)); (fail_if_success (with_reducible show wpAny _ _ (exec (PySem.Stmt.While _ _ _ _) _) _ _ _)); (fail_if_success (with_reducible show wpAny _ _ (exec (PySem.Stmt.For _ _ _ _ _) _) _ _ _)); (fail_if_success (with_reducible show wpAny _ _ (pyIter _) _ _ _)); (fail_if_success (with_reducible show wpAny _ _ (subscriptTail _ _ _ _) _ _ _)); (fail_if_success (with_reducible show wpAny _ _ (call (Value.builtin "list.append") _) _ _ _)); (fail_if_success (with_reducible show wpAny _ _ (getMethod _ _ _) _ _ _)); (fail_if_success (with_reducible show wpAny _ _ (newList _) _ _ _)); (fail_if_success (with_reducible show wpAny _ _ (newTuple _) _ _ _)); (fail_if_success (with_reducible show wpAny _ _ (call (Value.ref _) _) _ _ _)); (fail_if_success (with_reducible show wpAny _ _ (exec (PySem.Stmt.Try _ _ _ _ _) _) _ _ _)); (fail_if_success (with_reducible show wpAny _ _ (compareOp _ _ _) _ _ _)); walk1; (try dsimp only))
            obtain ⟨ptop, pprm, pheap⟩ := pop_spec hfs hheap
            rw [hfs] at Np
            have Nq := news_sub Np (b := (hl, listOf ((fs ++ [fl]).map (·.1)).toArray hn) :: ((L1 + 1, oc) :: (ll, listOf lvs.toArray ln) :: (fz ++ news))) (fun q hq => by simp only [List.mem_cons, List.mem_append] at hq ⊢; grind)
            refine ⟨X2.keeps Fp.keep, ?_⟩
            k_dflt (refine heappop_ok (hl := hl) (es := fs) (e := fl) (rest := (L1 + 1, oc) :: (ll, listOf lvs.toArray ln) :: (fz ++ news)) B2 Fp X2 P2 rfl ?_ ?_ Nq ?_ ?_ ?_ ?_)
            · ktr_room
            · ktr_units
            · intro q hq
              rcases List.mem_cons.mp hq with rfl | hq
              · exact hc1
              · rcases List.mem_cons.mp hq with rfl | hq
                · exact fun z => hlh z.symm
                · rcases List.mem_append.mp hq with hq | hq
                  · exact I.nh q hq
                  · exact hn1' q hq
            · intro y hy
              rw [← hfs] at hy
              exact DatIn.mono (fun q hq => .tail _ (.tail _ (List.mem_append.mpr (.inl hq)))) (hdat y hy)
            · have := congrArg List.length hfs; simp at this; simp at hle; omega
            intro h3 tk3 n3 F3 N3
            rw [ptop]
            clear Np Nq
            have hsub9 : ∀ q ∈ fz, q ∈ fz := fun _ h => h
            have hnl9 := I.nl
            have hnh9 := I.nh
            have hd0 := hdat (Value.ref ea, (r1, (k : Int), r3)) (.head _)
            have hTh' := hTh
            have hes9 : ∀ e ∈ popRest fs fl, DatIn fz e.1 (triD e.2) := fun e he => hdat e (.tail _ (pprm.mem_iff.mp he))
            have hok9 : ∀ e ∈ popRest fs fl, EntOk xs e.2 := fun e he => hok e (.tail _ (pprm.mem_iff.mp he))
            have hlen9 : (popRest fs fl).length ≤ 12 := by rw [pprm.length_eq]; simp at hle; omega
            have hheap9 := pheap
            have hpm9 : rem'.Perm (((popRest fs fl).map (·.2)).flatMap (pendOf xs)) := by
              refine hpm.trans ?_
              rw [show (if r3 = 0 then restOf x k else []) = [] by
                by_cases h0 : r3 = 0
                · rw [if_pos h0]; unfold restOf
                  by_cases h3 : kindW x = 3
                  · rw [if_pos h3]
                  · rw [if_neg h3]
                    by_cases h4 : encOf x = none
                    · rw [if_pos h4]
                    · exact absurd (hag.mpr ⟨h0, h3, h4⟩) (by simp)
                · rw [if_neg h0], List.nil_append]
              exact ((pprm.map _).flatMap_right _).symm
            repeat ((first | (with_reducible show wpAny _ _ _ _ _ _) | (with_reducible show ite _ _ _)); (fail_if_success (with_reducible show wpAny _ _ (exec (PySem.Stmt.While _ _ _ _) _) _ _ _)); (fail_if_success (with_reducible show wpAny _ _ (exec (PySem.Stmt.For _ _ _ _ _) _) _ _ _)); (fail_if_success (with_reducible show wpAny _ _ (pyIter _) _ _ _)); (fail_if_success (with_reducible show wpAny _ _ (subscriptTail _ _ _ _) _ _ _)); (fail_if_success (with_reducible show wpAny _ _ (call (Value.builtin "list.append") _) _ _ _)); (fail_if_success (with_reducible show wpAny _ _ (getMethod _ _ _) _ _ _)); (fail_if_success (with_reducible show wpAny _ _ (newList _) _ _ _)); (fail_if_success (with_reducible show wpAny _ _ (newTuple _) _ _ _)); (fail_if_success (with_reducible show wpAny _ _ (call (Value.ref _) _) _ _ _)); (fail_if_success (with_reducible show wpAny _ _ (exec (PySem.Stmt.Try _ _ _ _ _) _) _ _ _)); (fail_if_success (with_reducible show wpAny _ _ (compareOp _ _ _) _ _ _)); walk1; (try dsimp only))
            refine tup_new F3 N3 ?_ (by rw [sizeLine_eq]; simp)
            intro T9 hT9 FT NT ltT
            repeat ((first | (with_reducible show wpAny _ _ _ _ _ _) | (with_reducible show ite _ _ _)); (fail_if_success (with_reducible show wpAny _ _ (exec (PySem.Stmt.While _ _ _ _) _) _ _ _)); (fail_if_success (with_reducible show wpAny _ _ (exec (PySem.Stmt.For _ _ _ _ _) _) _ _ _)); (fail_if_success (with_reducible show wpAny _ _ (pyIter _) _ _ _)); (fail_if_success (with_reducible show wpAny _ _ (subscriptTail _ _ _ _) _ _ _)); (fail_if_success (with_reducible show wpAny _ _ (call (Value.builtin "list.append") _) _ _ _)); (fail_if_success (with_reducible show wpAny _ _ (getMethod _ _ _) _ _ _)); (fail_if_success (with_reducible show wpAny _ _ (newList _) _ _ _)); (fail_if_success (with_reducible show wpAny _ _ (newTuple _) _ _ _)); (fail_if_success (with_reducible show wpAny _ _ (call (Value.ref _) _) _ _ _)); (fail_if_success (with_reducible show wpAny _ _ (exec (PySem.Stmt.Try _ _ _ _ _) _) _ _ _)); (fail_if_success (with_reducible show wpAny _ _ (compareOp _ _ _) _ _ _)); walk1; (try dsimp only))
            obtain ⟨oT, hoT, NT'⟩ : ∃ oT, oT = ({ cls := .type "tuple", data := .seq _ } : Obj) ∧ News g2 L1 hT9 ((T9, oT) :: (hl, listOf ((popRest fs fl).map (·.1)).toArray n3) :: (L1 + 1, oc) :: (ll, listOf lvs.toArray ln) :: (fz ++ news)) := ⟨_, rfl, NT⟩
            have hTl : ll < T9 := ltT (ll, listOf lvs.toArray ln) (.tail _ (.tail _ (.head _)))
            have hTh : hl < T9 := ltT (hl, _) (.head _)
            have hul : us.length ≤ 24 := by have h1 := hperm.length_eq; have h2 := triesL_len xs 0; omega
            have hlv : lvs.length ≤ 24 := by
              have h1 := I.log.length; have h2 := congrArg List.length I.row
              simp at h1 h2; omega
            refine append_K FT NT' (.tail (Nat.ne_of_gt hTl) (.tail hlh (.tail hc2 (Upd.head ?_)))) ?_ (by rw [List.size_toArray, sizeLine_eq]; omega)
            · intro q hq
              rcases List.mem_append.mp hq with hq | hq
              · exact hnl9 q hq
              · exact hn2' q hq
            intro h29 F29 N29
            rw [List.push_toArray] at N29
            clear NT
            have N30 := news_sub N29 (b := (L1 + 1, oc) :: (hl, listOf ((popRest fs fl).map (·.1)).toArray n3) :: (ll, listOf (lvs ++ [Value.ref T9]).toArray (ln + 1)) :: (((T9, oT) :: fz) ++ news)) (fun q hq => by simp only [List.mem_cons, List.mem_append] at hq ⊢; grind)
            clear N29
            have hlog : DatAll ((T9, oT) :: fz) (lvs ++ [Value.ref T9]) ((lts ++ [((r1, (k : Int), r3), nameT x r3)]).map logD) := by
              rw [List.map_append]
              refine (I.log.mono fun q hq => .tail _ (hsub9 q hq)).append (.cons ?_ .nil)
              subst hoT
              exact .tuple (.head _) (.cons (DatIn.mono (fun q hq => .tail _ (hsub9 q hq)) hd0) (.cons (.str _ _) .nil))
            repeat ((first | (with_reducible show wpAny _ _ _ _ _ _) | (with_reducible show ite _ _ _)); (fail_if_success (with_reducible show wpAny _ _ (exec (PySem.Stmt.While _ _ _ _) _) _ _ _)); (fail_if_success (with_reducible show wpAny _ _ (exec (PySem.Stmt.For _ _ _ _ _) _) _ _ _)); (fail_if_success (with_reducible show wpAny _ _ (pyIter _) _ _ _)); (fail_if_success (with_reducible show wpAny _ _ (subscriptTail _ _ _ _) _ _ _)); (fail_if_success (with_reducible show wpAny _ _ (call (Value.builtin "list.append") _) _ _ _)); (fail_if_success (with_reducible show wpAny _ _ (getMethod _ _ _) _ _ _)); (fail_if_success (with_reducible show wpAny _ _ (newList _) _ _ _)); (fail_if_success (with_reducible show wpAny _ _ (newTuple _) _ _ _)); (fail_if_success (with_reducible show wpAny _ _ (call (Value.ref _) _) _ _ _)); (fail_if_success (with_reducible show wpAny _ _ (exec (PySem.Stmt.Try _ _ _ _ _) _) _ _ _)); (fail_if_success (with_reducible show wpAny _ _ (compareOp _ _ _) _ _ _)); walk1; (try dsimp only))
            rename Fr _ _ _ _ => F31
            rename News _ _ _ _ => N31
            refine isIn_str N31 (.tail _ (.tail _ (.tail _ (List.mem_append.mpr (.inr htl))))) hTh' hz hnok ?_ ?_ ?_
            · ktr_units
            · intro hin
              repeat ((first | (with_reducible show wpAny _ _ _ _ _ _) | (with_reducible show ite _ _ _)); (fail_if_success (with_reducible show wpAny _ _ (exec (PySem.Stmt.While _ _ _ _) _) _ _ _)); (fail_if_success (with_reducible show wpAny _ _ (exec (PySem.Stmt.For _ _ _ _ _) _) _ _ _)); (fail_if_success (with_reducible show wpAny _ _ (pyIter _) _ _ _)); (fail_if_success (with_reducible show wpAny _ _ (subscriptTail _ _ _ _) _ _ _)); (fail_if_success (with_reducible show wpAny _ _ (call (Value.builtin "list.append") _) _ _ _)); (fail_if_success (with_reducible show wpAny _ _ (getMethod _ _ _) _ _ _)); (fail_if_success (with_reducible show wpAny _ _ (newList _) _ _ _)); (fail_if_success (with_reducible show wpAny _ _ (newTuple _) _ _ _)); (fail_if_success (with_reducible show wpAny _ _ (call (Value.ref _) _) _ _ _)); (fail_if_success (with_reducible show wpAny _ _ (exec (PySem.Stmt.Try _ _ _ _ _) _) _ _ _)); (fail_if_success (with_reducible show wpAny _ _ (compareOp _ _ _) _ _ _)); walk1; (try dsimp only))
              refine leaveS0_ F31 N31 T2 fun F6 N6 => ret _ _ _ ((ll, listOf (lvs ++ [Value.ref T9]).toArray (ln + 1)) :: ((T9, oT) :: fz)) F6 (news_sub N6 fun p hp => ?_) ?_
              · simp only [List.mem_cons, List.mem_append] at hp ⊢; grind
              · rw [← I.row, hrem, walkLog_end I.on hin]
                exact .list (.head _) (hlog.mono fun q hq => .tail _ hq)
            · intro hin
              repeat ((first | (with_reducible show wpAny _ _ _ _ _ _) | (with_reducible show ite _ _ _)); (fail_if_success (with_reducible show wpAny _ _ (exec (PySem.Stmt.While _ _ _ _) _) _ _ _)); (fail_if_success (with_reducible show wpAny _ _ (exec (PySem.Stmt.For _ _ _ _ _) _) _ _ _)); (fail_if_success (with_reducible show wpAny _ _ (pyIter _) _ _ _)); (fail_if_success (with_reducible show wpAny _ _ (subscriptTail _ _ _ _) _ _ _)); (fail_if_success (with_reducible show wpAny _ _ (call (Value.builtin "list.append") _) _ _ _)); (fail_if_success (with_reducible show wpAny _ _ (getMethod _ _ _) _ _ _)); (fail_if_success (with_reducible show wpAny _ _ (newList _) _ _ _)); (fail_if_success (with_reducible show wpAny _ _ (newTuple _) _ _ _)); (fail_if_success (with_reducible show wpAny _ _ (call (Value.ref _) _) _ _ _)); (fail_if_success (with_reducible show wpAny _ _ (exec (PySem.Stmt.Try _ _ _ _ _) _) _ _ _)); (fail_if_success (with_reducible show wpAny _ _ (compareOp _ _ _) _ _ _)); walk1; (try dsimp only))
              exact ⟨rem'.length, by rw [hrem]; simp, g2, _, _, _, popRest fs fl, n3, lvs ++ [Value.ref T9], ln + 1, (T9, oT) :: fz, lts ++ [((r1, (k : Int), r3), nameT x r3)], rem', rfl, rfl, {
                T := T2, B := B2, X := X2, Tp := P2, D := D2
                F := fr_k F31 (by kst_all)
                N := N31
                nh := fun q hq => (List.mem_cons.mp hq).elim (fun e => by rw [e]; exact Nat.ne_of_gt hTh) (hnh9 q)
                nl := fun q hq => (List.mem_cons.mp hq).elim (fun e => by rw [e]; exact Nat.ne_of_gt hTl) (hnl9 q)
                dat := fun e he => DatIn.mono (fun q hq => .tail _ hq) (hes9 e he)
                ok := hok9
                len := hlen9
                heap := hheap9
                log := hlog
                on := fun u hu => by
                  rcases List.mem_append.mp hu with hu | hu
                  · exact I.on u hu
                  · rw [List.mem_singleton.mp hu]; exact hin
                row := by rw [List.append_assoc, ← I.row, hrem]; rfl
                pm := hpm9 }⟩
          | true =>
            obtain ⟨h0, hk3, henc⟩ := hag.mp rfl
            have hr30 := h0
            repeat ((first | (with_reducible show wpAny _ _ _ _ _ _) | (with_reducible show ite _ _ _)); (fail_if_success (with_reducible show wpAny _ _ (exec (PySem.Stmt.While _ _ _ _) _) _ _ _)); (fail_if_success (with_reducible show wpAny _ _ (exec (PySem.Stmt.For _ _ _ _ _) _) _ _ _)); (fail_if_success (with_reducible show wpAny _ _ (pyIter _) _ _ _)); (fail_if_success (with_reducible show wpAny _ _ (subscriptTail _ _ _ _) _ _ _)); (fail_if_success (with_reducible show wpAny _ _ (call (Value.builtin "list.append") _) _ _ _)); (fail_if_success (with_reducible show wpAny _ _ (getMethod _ _ _) _ _ _)); (fail_if_success (with_reducible show wpAny _ _ (newList _) _ _ _)); (fail_if_success (with_reducible show wpAny _ _ (newTuple _) _ _ _)); (fail_if_success (with_reducible show wpAny _ _ (call (Value.ref _) _) _ _ _)); (fail_if_success (with_reducible show wpAny _ _ (exec (PySem.Stmt.Try _ _ _ _ _) _) _ _ _)); (fail_if_success (with_reducible show wpAny _ _ (compareOp _ _ _) _ _ _)); walk1; (try dsimp only))
            rename Fr _ _ _ _ => Fp
            rename News _ _ _ _ => Np
            refine notIn_str Np (.tail _ (.tail _ (.tail _ (.tail _ (List.mem_append.mpr (.inr htl)))))) hTh hz hnok ?_ ?_ ?_
            · ktr_units
            · intro hin0
              repeat ((first | (with_reducible show wpAny _ _ _ _ _ _) | (with_reducible show ite _ _ _)); (fail_if_success (with_reducible show wpAny _ _ (exec (PySem.Stmt.While _ _ _ _) _) _ _ _)); (fail_if_success (with_reducible show wpAny _ _ (exec (PySem.Stmt.For _ _ _ _ _) _) _ _ _)); (fail_if_success (with_reducible show wpAny _ _ (pyIter _) _ _ _)); (fail_if_success (with_reducible show wpAny _ _ (subscriptTail _ _ _ _) _ _ _)); (fail_if_success (with_reducible show wpAny _ _ (call (Value.builtin "list.append") _) _ _ _)); (fail_if_success (with_reducible show wpAny _ _ (getMethod _ _ _) _ _ _)); (fail_if_success (with_reducible show wpAny _ _ (newList _) _ _ _)); (fail_if_success (with_reducible show wpAny _ _ (newTuple _) _ _ _)); (fail_if_success (with_reducible show wpAny _ _ (call (Value.ref _) _) _ _ _)); (fail_if_success (with_reducible show wpAny _ _ (exec (PySem.Stmt.Try _ _ _ _ _) _) _ _ _)); (fail_if_success (with_reducible show wpAny _ _ (compareOp _ _ _) _ _ _)); walk1; (try dsimp only))
              refine listMethod_K (its := lvs.toArray) (n := ln) Np (.tail _ (.tail _ (.tail _ (.head _)))) PySem.F.slot_list_append PySem.F.type_list_append ?_
              repeat ((first | (with_reducible show wpAny _ _ _ _ _ _) | (with_reducible show ite _ _ _)); (fail_if_success (with_reducible show wpAny _ _ (exec (PySem.Stmt.While _ _ _ _) _) _ _ _)); (fail_if_success (with_reducible show wpAny _ _ (exec (PySem.Stmt.For _ _ _ _ _) _) _ _ _)); (fail_if_success (with_reducible show wpAny _ _ (pyIter _) _ _ _)); (fail_if_success (with_reducible show wpAny _ _ (subscriptTail _ _ _ _) _ _ _)); (fail_if_success (with_reducible show wpAny _ _ (call (Value.builtin "list.append") _) _ _ _)); (fail_if_success (with_reducible show wpAny _ _ (getMethod _ _ _) _ _ _)); (fail_if_success (with_reducible show wpAny _ _ (newList _) _ _ _)); (fail_if_success (with_reducible show wpAny _ _ (newTuple _) _ _ _)); (fail_if_success (with_reducible show wpAny _ _ (call (Value.ref _) _) _ _ _)); (fail_if_success (with_reducible show wpAny _ _ (exec (PySem.Stmt.Try _ _ _ _ _) _) _ _ _)); (fail_if_success (with_reducible show wpAny _ _ (compareOp _ _ _) _ _ _)); walk1; (try dsimp only))
              obtain ⟨ptop, pprm, pheap⟩ := pop_spec hfs hheap
              rw [hfs] at Np
              have Nq := news_sub Np (b := (hl, listOf ((fs ++ [fl]).map (·.1)).toArray hn) :: ((L1 + 1, oc) :: (ll, listOf lvs.toArray ln) :: (fz ++ news))) (fun q hq => by simp only [List.mem_cons, List.mem_append] at hq ⊢; grind)
              refine ⟨X2.keeps Fp.keep, ?_⟩
              k_dflt (refine heappop_ok (hl := hl) (es := fs) (e := fl) (rest := (L1 + 1, oc) :: (ll, listOf lvs.toArray ln) :: (fz ++ news)) B2 Fp X2 P2 rfl ?_ ?_ Nq ?_ ?_ ?_ ?_)
              · ktr_room
              · ktr_units
              · intro q hq
                rcases List.mem_cons.mp hq with rfl | hq
                · exact hc1
                · rcases List.mem_cons.mp hq with rfl | hq
                  · exact fun z => hlh z.symm
                  · rcases List.mem_append.mp hq with hq | hq
                    · exact I.nh q hq
                    · exact hn1' q hq
              · intro y hy
                rw [← hfs] at hy
                exact DatIn.mono (fun q hq => .tail _ (.tail _ (List.mem_append.mpr (.inl hq)))) (hdat y hy)
              · have := congrArg List.length hfs; simp at this; simp at hle; omega
              intro h3 tk3 n3 F3 N3
              rw [ptop]
              clear Np Nq
              have hsub9 : ∀ q ∈ fz, q ∈ fz := fun _ h => h
              have hnl9 := I.nl
              have hnh9 := I.nh
              have hd0 := hdat (Value.ref ea, (r1, (k : Int), r3)) (.head _)
              have hTh' := hTh
              have hes9 : ∀ e ∈ popRest fs fl, DatIn fz e.1 (triD e.2) := fun e he => hdat e (.tail _ (pprm.mem_iff.mp he))
              have hok9 : ∀ e ∈ popRest fs fl, EntOk xs e.2 := fun e he => hok e (.tail _ (pprm.mem_iff.mp he))
              have hlen9 : (popRest fs fl).length ≤ 12 := by rw [pprm.length_eq]; simp at hle; omega
              have hheap9 := pheap
              repeat ((first | (with_reducible show wpAny _ _ _ _ _ _) | (with_reducible show ite _ _ _)); (fail_if_success (with_reducible show wpAny _ _ (exec (PySem.Stmt.While _ _ _ _) _) _ _ _)); (fail_if_success (with_reducible show wpAny _ _ (exec (PySem.Stmt.For _ _ _ _ _) _) _ _ _)); (fail_if_success (with_reducible show wpAny _ _ (pyIter _) _ _ _)); (fail_if_success (with_reducible show wpAny _ _ (subscriptTail _ _ _ _) _ _ _)); (fail_if_success (with_reducible show wpAny _ _ (call (Value.builtin "list.append") _) _ _ _)); (fail_if_success (with_reducible show wpAny _ _ (getMethod _ _ _) _ _ _)); (fail_if_success (with_reducible show wpAny _ _ (newList _) _ _ _)); (fail_if_success (with_reducible show wpAny _ _ (newTuple _) _ _ _)); (fail_if_success (with_reducible show wpAny _ _ (call (Value.ref _) _) _ _ _)); (fail_if_success (with_reducible show wpAny _ _ (exec (PySem.Stmt.Try _ _ _ _ _) _) _ _ _)); (fail_if_success (with_reducible show wpAny _ _ (compareOp _ _ _) _ _ _)); walk1; (try dsimp only))
              refine tup_new F3 N3 ?_ (by rw [sizeLine_eq]; simp)
              intro T9 hT9 FT NT ltT
              repeat ((first | (with_reducible show wpAny _ _ _ _ _ _) | (with_reducible show ite _ _ _)); (fail_if_success (with_reducible show wpAny _ _ (exec (PySem.Stmt.While _ _ _ _) _) _ _ _)); (fail_if_success (with_reducible show wpAny _ _ (exec (PySem.Stmt.For _ _ _ _ _) _) _ _ _)); (fail_if_success (with_reducible show wpAny _ _ (pyIter _) _ _ _)); (fail_if_success (with_reducible show wpAny _ _ (subscriptTail _ _ _ _) _ _ _)); (fail_if_success (with_reducible show wpAny _ _ (call (Value.builtin "list.append") _) _ _ _)); (fail_if_success (with_reducible show wpAny _ _ (getMethod _ _ _) _ _ _)); (fail_if_success (with_reducible show wpAny _ _ (newList _) _ _ _)); (fail_if_success (with_reducible show wpAny _ _ (newTuple _) _ _ _)); (fail_if_success (with_reducible show wpAny _ _ (call (Value.ref _) _) _ _ _)); (fail_if_success (with_reducible show wpAny _ _ (exec (PySem.Stmt.Try _ _ _ _ _) _) _ _ _)); (fail_if_success (with_reducible show wpAny _ _ (compareOp _ _ _) _ _ _)); walk1; (try dsimp only))
              obtain ⟨oT, hoT, NT'⟩ : ∃ oT, oT = ({ cls := .type "tuple", data := .seq _ } : Obj) ∧ News g2 L1 hT9 ((T9, oT) :: (hl, listOf ((popRest fs fl).map (·.1)).toArray n3) :: (L1 + 1, oc) :: (ll, listOf lvs.toArray ln) :: (fz ++ news)) := ⟨_, rfl, NT⟩
              have hTl : ll < T9 := ltT (ll, listOf lvs.toArray ln) (.tail _ (.tail _ (.head _)))
              have hTh : hl < T9 := ltT (hl, _) (.head _)
              have hul : us.length ≤ 24 := by have h1 := hperm.length_eq; have h2 := triesL_len xs 0; omega
              have hlv : lvs.length ≤ 24 := by
                have h1 := I.log.length; have h2 := congrArg List.length I.row
                simp at h1 h2; omega
              refine append_K FT NT' (.tail (Nat.ne_of_gt hTl) (.tail hlh (.tail hc2 (Upd.head ?_)))) ?_ (by rw [List.size_toArray, sizeLine_eq]; omega)
              · intro q hq
                rcases List.mem_append.mp hq with hq | hq
                · exact hnl9 q hq
                · exact hn2' q hq
              intro h29 F29 N29
              rw [List.push_toArray] at N29
              clear NT
              have N30 := news_sub N29 (b := (L1 + 1, oc) :: (hl, listOf ((popRest fs fl).map (·.1)).toArray n3) :: (ll, listOf (lvs ++ [Value.ref T9]).toArray (ln + 1)) :: (((T9, oT) :: fz) ++ news)) (fun q hq => by simp only [List.mem_cons, List.mem_append] at hq ⊢; grind)
              clear N29
              have hlog : DatAll ((T9, oT) :: fz) (lvs ++ [Value.ref T9]) ((lts ++ [((r1, (k : Int), r3), nameT x r3)]).map logD) := by
                rw [List.map_append]
                refine (I.log.mono fun q hq => .tail _ (hsub9 q hq)).append (.cons ?_ .nil)
                subst hoT
                exact .tuple (.head _) (.cons (DatIn.mono (fun q hq => .tail _ (hsub9 q hq)) hd0) (.cons (.str _ _) .nil))
              repeat ((first | (with_reducible show wpAny _ _ _ _ _ _) | (with_reducible show ite _ _ _)); (fail_if_success (with_reducible show wpAny _ _ (exec (PySem.Stmt.While _ _ _ _) _) _ _ _)); (fail_if_success (with_reducible show wpAny _ _ (exec (PySem.Stmt.For _ _ _ _ _) _) _ _ _)); (fail_if_success (with_reducible show wpAny _ _ (pyIter _) _ _ _)); (fail_if_success (with_reducible show wpAny _ _ (subscriptTail _ _ _ _) _ _ _)); (fail_if_success (with_reducible show wpAny _ _ (call (Value.builtin "list.append") _) _ _ _)); (fail_if_success (with_reducible show wpAny _ _ (getMethod _ _ _) _ _ _)); (fail_if_success (with_reducible show wpAny _ _ (newList _) _ _ _)); (fail_if_success (with_reducible show wpAny _ _ (newTuple _) _ _ _)); (fail_if_success (with_reducible show wpAny _ _ (call (Value.ref _) _) _ _ _)); (fail_if_success (with_reducible show wpAny _ _ (exec (PySem.Stmt.Try _ _ _ _ _) _) _ _ _)); (fail_if_success (with_reducible show wpAny _ _ (compareOp _ _ _) _ _ _)); walk1; (try dsimp only))
              rename Fr _ _ _ _ => F31
              rename News _ _ _ _ => N31
              refine isIn_str N31 (.tail _ (.tail _ (.tail _ (List.mem_append.mpr (.inr htl))))) hTh' hz hnok ?_ ?_ ?_
              · ktr_units
              · intro hin
                repeat ((first | (with_reducible show wpAny _ _ _ _ _ _) | (with_reducible show ite _ _ _)); (fail_if_success (with_reducible show wpAny _ _ (exec (PySem.Stmt.While _ _ _ _) _) _ _ _)); (fail_if_success (with_reducible show wpAny _ _ (exec (PySem.Stmt.For _ _ _ _ _) _) _ _ _)); (fail_if_success (with_reducible show wpAny _ _ (pyIter _) _ _ _)); (fail_if_success (with_reducible show wpAny _ _ (subscriptTail _ _ _ _) _ _ _)); (fail_if_success (with_reducible show wpAny _ _ (call (Value.builtin "list.append") _) _ _ _)); (fail_if_success (with_reducible show wpAny _ _ (getMethod _ _ _) _ _ _)); (fail_if_success (with_reducible show wpAny _ _ (newList _) _ _ _)); (fail_if_success (with_reducible show wpAny _ _ (newTuple _) _ _ _)); (fail_if_success (with_reducible show wpAny _ _ (call (Value.ref _) _) _ _ _)); (fail_if_success (with_reducible show wpAny _ _ (exec (PySem.Stmt.Try _ _ _ _ _) _) _ _ _)); (fail_if_success (with_reducible show wpAny _ _ (compareOp _ _ _) _ _ _)); walk1; (try dsimp only))
                refine leaveS0_ F31 N31 T2 fun F6 N6 => ret _ _ _ ((ll, listOf (lvs ++ [Value.ref T9]).toArray (ln + 1)) :: ((T9, oT) :: fz)) F6 (news_sub N6 fun p hp => ?_) ?_
                · simp only [List.mem_cons, List.mem_append] at hp ⊢; grind
                · rw [← I.row, hrem, walkLog_end I.on hin]
                  exact .list (.head _) (hlog.mono fun q hq => .tail _ hq)
              · intro hin
                exact absurd hin0 hin
            · intro hnin
              repeat ((first | (with_reducible show wpAny _ _ _ _ _ _) | (with_reducible show ite _ _ _)); (fail_if_success (with_reducible show wpAny _ _ (exec (PySem.Stmt.While _ _ _ _) _) _ _ _)); (fail_if_success (with_reducible show wpAny _ _ (exec (PySem.Stmt.For _ _ _ _ _) _) _ _ _)); (fail_if_success (with_reducible show wpAny _ _ (pyIter _) _ _ _)); (fail_if_success (with_reducible show wpAny _ _ (subscriptTail _ _ _ _) _ _ _)); (fail_if_success (with_reducible show wpAny _ _ (call (Value.builtin "list.append") _) _ _ _)); (fail_if_success (with_reducible show wpAny _ _ (getMethod _ _ _) _ _ _)); (fail_if_success (with_reducible show wpAny _ _ (newList _) _ _ _)); (fail_if_success (with_reducible show wpAny _ _ (newTuple _) _ _ _)); (fail_if_success (with_reducible show wpAny _ _ (call (Value.ref _) _) _ _ _)); (fail_if_success (with_reducible show wpAny _ _ (exec (PySem.Stmt.Try _ _ _ _ _) _) _ _ _)); (fail_if_success (with_reducible show wpAny _ _ (compareOp _ _ _) _ _ _)); walk1; (try dsimp only))
              refine listMethod_K (its := lvs.toArray) (n := ln) Np (.tail _ (.tail _ (.tail _ (.head _)))) PySem.F.slot_list_append PySem.F.type_list_append ?_
              repeat ((first | (with_reducible show wpAny _ _ _ _ _ _) | (with_reducible show ite _ _ _)); (fail_if_success (with_reducible show wpAny _ _ (exec (PySem.Stmt.While _ _ _ _) _) _ _ _)); (fail_if_success (with_reducible show wpAny _ _ (exec (PySem.Stmt.For _ _ _ _ _) _) _ _ _)); (fail_if_success (with_reducible show wpAny _ _ (pyIter _) _ _ _)); (fail_if_success (with_reducible show wpAny _ _ (subscriptTail _ _ _ _) _ _ _)); (fail_if_success (with_reducible show wpAny _ _ (call (Value.builtin "list.append") _) _ _ _)); (fail_if_success (with_reducible show wpAny _ _ (getMethod _ _ _) _ _ _)); (fail_if_success (with_reducible show wpAny _ _ (newList _) _ _ _)); (fail_if_success (with_reducible show wpAny _ _ (newTuple _) _ _ _)); (fail_if_success (with_reducible show wpAny _ _ (call (Value.ref _) _) _ _ _)); (fail_if_success (with_reducible show wpAny _ _ (exec (PySem.Stmt.Try _ _ _ _ _) _) _ _ _)); (fail_if_success (with_reducible show wpAny _ _ (compareOp _ _ _) _ _ _)); walk1; (try dsimp only))
              refine tup_new Fp Np ?_ (by rw [sizeLine_eq]; simp)
              intro Tn hTn FTn NTn ltn
              repeat ((first | (with_reducible show wpAny _ _ _ _ _ _) | (with_reducible show ite _ _ _)); (fail_if_success (with_reducible show wpAny _ _ (exec (PySem.Stmt.While _ _ _ _) _) _ _ _)); (fail_if_success (with_reducible show wpAny _ _ (exec (PySem.Stmt.For _ _ _ _ _) _) _ _ _)); (fail_if_success (with_reducible show wpAny _ _ (pyIter _) _ _ _)); (fail_if_success (with_reducible show wpAny _ _ (subscriptTail _ _ _ _) _ _ _)); (fail_if_success (with_reducible show wpAny _ _ (call (Value.builtin "list.append") _) _ _ _)); (fail_if_success (with_reducible show wpAny _ _ (getMethod _ _ _) _ _ _)); (fail_if_success (with_reducible show wpAny _ _ (newList _) _ _ _)); (fail_if_success (with_reducible show wpAny _ _ (newTuple _) _ _ _)); (fail_if_success (with_reducible show wpAny _ _ (call (Value.ref _) _) _ _ _)); (fail_if_success (with_reducible show wpAny _ _ (exec (PySem.Stmt.Try _ _ _ _ _) _) _ _ _)); (fail_if_success (with_reducible show wpAny _ _ (compareOp _ _ _) _ _ _)); walk1; (try dsimp only))
              obtain ⟨oTn, hoTn, NTn'⟩ : ∃ oTn, oTn = ({ cls := .type "tuple", data := .seq _ } : Obj) ∧ News g2 L1 hTn ((Tn, oTn) :: _) := ⟨_, rfl, NTn⟩
              have Nq := news_sub NTn' (b := (hl, listOf (((Value.ref ea, (r1, (k : Int), r3)) :: er).map (·.1)).toArray hn) :: ((L1 + 1, oc) :: (ll, listOf lvs.toArray ln) :: (((Tn, oTn) :: fz) ++ news))) (fun q hq => by simp only [List.mem_cons, List.mem_append] at hq ⊢; grind)
              clear NTn NTn' Np
              have hnTl : ll < Tn := ltn (ll, listOf lvs.toArray ln) (.tail _ (.tail _ (.tail _ (.head _))))
              have hnTh : hl < Tn := ltn (hl, _) (.tail _ (.tail _ (.head _)))
              have hsub9 : ∀ q ∈ fz, q ∈ (Tn, oTn) :: fz := fun q h => .tail _ h
              have hnl9 : ∀ q ∈ (Tn, oTn) :: fz, q.1 ≠ ll := fun q hq => (List.mem_cons.mp hq).elim (fun e => by rw [e]; exact Nat.ne_of_gt hnTl) (I.nl q)
              have hnh9 : ∀ q ∈ (Tn, oTn) :: fz, q.1 ≠ hl := fun q hq => (List.mem_cons.mp hq).elim (fun e => by rw [e]; exact Nat.ne_of_gt hnTh) (I.nh q)
              have hd0 := hdat (Value.ref ea, (r1, (k : Int), r3)) (.head _)
              have hTh' := hTh
              have hnew : DatIn ((Tn, oTn) :: fz) (Value.ref Tn) (triD (r1 + 3, (k : Int), 1)) := by
                subst hoTn
                exact .tuple (.head _) (.cons (.int _ _) (.cons (.int _ _) (.cons (.int _ _) .nil)))
              have hes0 : ∀ y ∈ ((Value.ref Tn, (r1 + 3, (k : Int), 1)) : Ent) :: er, DatIn ((Tn, oTn) :: fz) y.1 (triD y.2) := fun y hy => by
                rcases List.mem_cons.mp hy with rfl | hy
                · exact hnew
                · exact DatIn.mono hsub9 (hdat y (.tail _ hy))
              obtain ⟨pheap, pprm⟩ := replace_spec (n := (Value.ref Tn, (r1 + 3, (k : Int), 1))) hheap
              refine ⟨X2.keeps FTn.keep, ?_⟩
              k_dflt (refine heapreplace_ok (hl := hl) (es := er) (x := (Value.ref ea, (r1, (k : Int), r3))) (e := (Value.ref Tn, (r1 + 3, (k : Int), 1))) (rest := (L1 + 1, oc) :: (ll, listOf lvs.toArray ln) :: (((Tn, oTn) :: fz) ++ news)) B2 FTn X2 P2 rfl ?_ ?_ Nq ?_ ?_ ?_ ?_)
              · ktr_room
              · ktr_units
              · intro q hq
                rcases List.mem_cons.mp hq with rfl | hq
                · exact hc1
                · rcases List.mem_cons.mp hq with rfl | hq
                  · exact fun z => hlh z.symm
                  · rcases List.mem_append.mp hq with hq | hq
                    · exact hnh9 q hq
                    · exact hn1' q hq
              · intro y hy
                exact DatIn.mono (fun q hq => .tail _ (.tail _ (List.mem_append.mpr (.inl hq)))) (hes0 y hy)
              · simp at hle; omega
              intro h3 tk3 F3 N3
              clear Nq
              dsimp only
              have hr1 : r1 = -(x.fmod 10) := by
                rcases hcase with h | ⟨h, _⟩
                · cases h; rfl
                · cases h; cases hr30
              have hes9 : ∀ e ∈ siftup entLt ((Value.ref Tn, (r1 + 3, (k : Int), 1)) :: er) 0, DatIn ((Tn, oTn) :: fz) e.1 (triD e.2) := fun e he => hes0 e (pprm.mem_iff.mp he)
              have hok9 : ∀ e ∈ siftup entLt ((Value.ref Tn, (r1 + 3, (k : Int), 1)) :: er) 0, EntOk xs e.2 := fun e he => by
                rcases List.mem_cons.mp (pprm.mem_iff.mp he) with rfl | he
                · exact ⟨k, x, hx, .inr ⟨by rw [hr1, show -(x.fmod 10) + 3 = 3 - x.fmod 10 by omega], hk3, henc⟩⟩
                · exact hok e (.tail _ he)
              have hlen9 : (siftup entLt ((Value.ref Tn, (r1 + 3, (k : Int), 1)) :: er) 0).length ≤ 12 := by rw [pprm.length_eq]; simpa using hle
              have hheap9 := pheap
              have hpm9 : rem'.Perm (((siftup entLt ((Value.ref Tn, (r1 + 3, (k : Int), 1)) :: er) 0).map (·.2)).flatMap (pendOf xs)) := by
                refine hpm.trans ?_
                refine List.Perm.trans ?_ ((pprm.map _).flatMap_right _).symm
                rw [if_pos hr30]
                unfold restOf
                rw [if_neg hk3, if_neg henc]
                show ([_] ++ _ : List Try).Perm (pendOf xs (r1 + 3, (k : Int), 1) ++ _)
                have e : pendOf xs (r1 + 3, (k : Int), 1) = [((3 - x.fmod 10, (k : Int), 1), nameOf (langOf x) none)] := by
                  unfold pendOf
                  dsimp only
                  rw [Int.toNat_natCast, hgx, if_neg (by decide), hr1, show -(x.fmod 10) + 3 = 3 - x.fmod 10 by omega]
                  unfold nameT
                  rw [if_neg (by decide)]
                rw [e]
                exact List.Perm.refl _
              repeat ((first | (with_reducible show wpAny _ _ _ _ _ _) | (with_reducible show ite _ _ _)); (fail_if_success (with_reducible show wpAny _ _ (exec (PySem.Stmt.While _ _ _ _) _) _ _ _)); (fail_if_success (with_reducible show wpAny _ _ (exec (PySem.Stmt.For _ _ _ _ _) _) _ _ _)); (fail_if_success (with_reducible show wpAny _ _ (pyIter _) _ _ _)); (fail_if_success (with_reducible show wpAny _ _ (subscriptTail _ _ _ _) _ _ _)); (fail_if_success (with_reducible show wpAny _ _ (call (Value.builtin "list.append") _) _ _ _)); (fail_if_success (with_reducible show wpAny _ _ (getMethod _ _ _) _ _ _)); (fail_if_success (with_reducible show wpAny _ _ (newList _) _ _ _)); (fail_if_success (with_reducible show wpAny _ _ (newTuple _) _ _ _)); (fail_if_success (with_reducible show wpAny _ _ (call (Value.ref _) _) _ _ _)); (fail_if_success (with_reducible show wpAny _ _ (exec (PySem.Stmt.Try _ _ _ _ _) _) _ _ _)); (fail_if_success (with_reducible show wpAny _ _ (compareOp _ _ _) _ _ _)); walk1; (try dsimp only))
              refine tup_new F3 N3 ?_ (by rw [sizeLine_eq]; simp)
              intro T9 hT9 FT NT ltT
              repeat ((first | (with_reducible show wpAny _ _ _ _ _ _) | (with_reducible show ite _ _ _)); (fail_if_success (with_reducible show wpAny _ _ (exec (PySem.Stmt.While _ _ _ _) _) _ _ _)); (fail_if_success (with_reducible show wpAny _ _ (exec (PySem.Stmt.For _ _ _ _ _) _) _ _ _)); (fail_if_success (with_reducible show wpAny _ _ (pyIter _) _ _ _)); (fail_if_success (with_reducible show wpAny _ _ (subscriptTail _ _ _ _) _ _ _)); (fail_if_success (with_reducible show wpAny _ _ (call (Value.builtin "list.append") _) _ _ _)); (fail_if_success (with_reducible show wpAny _ _ (getMethod _ _ _) _ _ _)); (fail_if_success (with_reducible show wpAny _ _ (newList _) _ _ _)); (fail_if_success (with_reducible show wpAny _ _ (newTuple _) _ _ _)); (fail_if_success (with_reducible show wpAny _ _ (call (Value.ref _) _) _ _ _)); (fail_if_success (with_reducible show wpAny _ _ (exec (PySem.Stmt.Try _ _ _ _ _) _) _ _ _)); (fail_if_success (with_reducible show wpAny _ _ (compareOp _ _ _) _ _ _)); walk1; (try dsimp only))
              obtain ⟨oT, hoT, NT'⟩ : ∃ oT, oT = ({ cls := .type "tuple", data := .seq _ } : Obj) ∧ News g2 L1 hT9 ((T9, oT) :: (hl, listOf ((siftup entLt ((Value.ref Tn, (r1 + 3, (k : Int), 1)) :: er) 0).map (·.1)).toArray hn) :: (L1 + 1, oc) :: (ll, listOf lvs.toArray ln) :: (((Tn, oTn) :: fz) ++ news)) := ⟨_, rfl, NT⟩
              have hTl : ll < T9 := ltT (ll, listOf lvs.toArray ln) (.tail _ (.tail _ (.head _)))
              have hTh : hl < T9 := ltT (hl, _) (.head _)
              have hul : us.length ≤ 24 := by have h1 := hperm.length_eq; have h2 := triesL_len xs 0; omega
              have hlv : lvs.length ≤ 24 := by
                have h1 := I.log.length; have h2 := congrArg List.length I.row
                simp at h1 h2; omega
              refine append_K FT NT' (.tail (Nat.ne_of_gt hTl) (.tail hlh (.tail hc2 (Upd.head ?_)))) ?_ (by rw [List.size_toArray, sizeLine_eq]; omega)
              · intro q hq
                rcases List.mem_append.mp hq with hq | hq
                · exact hnl9 q hq
                · exact hn2' q hq
              intro h29 F29 N29
              rw [List.push_toArray] at N29
              clear NT
              have N30 := news_sub N29 (b := (L1 + 1, oc) :: (hl, listOf ((siftup entLt ((Value.ref Tn, (r1 + 3, (k : Int), 1)) :: er) 0).map (·.1)).toArray hn) :: (ll, listOf (lvs ++ [Value.ref T9]).toArray (ln + 1)) :: (((T9, oT) :: ((Tn, oTn) :: fz)) ++ news)) (fun q hq => by simp only [List.mem_cons, List.mem_append] at hq ⊢; grind)
              clear N29
              have hlog : DatAll ((T9, oT) :: ((Tn, oTn) :: fz)) (lvs ++ [Value.ref T9]) ((lts ++ [((r1, (k : Int), r3), nameT x r3)]).map logD) := by
                rw [List.map_append]
                refine (I.log.mono fun q hq => .tail _ (hsub9 q hq)).append (.cons ?_ .nil)
                subst hoT
                exact .tuple (.head _) (.cons (DatIn.mono (fun q hq => .tail _ (hsub9 q hq)) hd0) (.cons (.str _ _) .nil))
              repeat ((first | (with_reducible show wpAny _ _ _ _ _ _) | (with_reducible show ite _ _ _)); (fail_if_success (with_reducible show wpAny _ _ (exec (PySem.Stmt.While _ _ _ _) _) _ _ _)); (fail_if_success (with_reducible show wpAny _ _ (exec (PySem.Stmt.For _ _ _ _ _) _) _ _ _)); (fail_if_success (with_reducible show wpAny _ _ (pyIter _) _ _ _)); (fail_if_success (with_reducible show wpAny _ _ (subscriptTail _ _ _ _) _ _ _)); (fail_if_success (with_reducible show wpAny _ _ (call (Value.builtin "list.append") _) _ _ _)); (fail_if_success (with_reducible show wpAny _ _ (getMethod _ _ _) _ _ _)); (fail_if_success (with_reducible show wpAny _ _ (newList _) _ _ _)); (fail_if_success (with_reducible show wpAny _ _ (newTuple _) _ _ _)); (fail_if_success (with_reducible show wpAny _ _ (call (Value.ref _) _) _ _ _)); (fail_if_success (with_reducible show wpAny _ _ (exec (PySem.Stmt.Try _ _ _ _ _) _) _ _ _)); (fail_if_success (with_reducible show wpAny _ _ (compareOp _ _ _) _ _ _)); walk1; (try dsimp only))
              rename Fr _ _ _ _ => F31
              rename News _ _ _ _ => N31
              refine isIn_str N31 (.tail _ (.tail _ (.tail _ (List.mem_append.mpr (.inr htl))))) hTh' hz hnok ?_ ?_ ?_
              · ktr_units
              · intro hin
                repeat ((first | (with_reducible show wpAny _ _ _ _ _ _) | (with_reducible show ite _ _ _)); (fail_if_success (with_reducible show wpAny _ _ (exec (PySem.Stmt.While _ _ _ _) _) _ _ _)); (fail_if_success (with_reducible show wpAny _ _ (exec (PySem.Stmt.For _ _ _ _ _) _) _ _ _)); (fail_if_success (with_reducible show wpAny _ _ (pyIter _) _ _ _)); (fail_if_success (with_reducible show wpAny _ _ (subscriptTail _ _ _ _) _ _ _)); (fail_if_success (with_reducible show wpAny _ _ (call (Value.builtin "list.append") _) _ _ _)); (fail_if_success (with_reducible show wpAny _ _ (getMethod _ _ _) _ _ _)); (fail_if_success (with_reducible show wpAny _ _ (newList _) _ _ _)); (fail_if_success (with_reducible show wpAny _ _ (newTuple _) _ _ _)); (fail_if_success (with_reducible show wpAny _ _ (call (Value.ref _) _) _ _ _)); (fail_if_success (with_reducible show wpAny _ _ (exec (PySem.Stmt.Try _ _ _ _ _) _) _ _ _)); (fail_if_success (with_reducible show wpAny _ _ (compareOp _ _ _) _ _ _)); walk1; (try dsimp only))
                refine leaveS0_ F31 N31 T2 fun F6 N6 => ret _ _ _ ((ll, listOf (lvs ++ [Value.ref T9]).toArray (ln + 1)) :: ((T9, oT) :: ((Tn, oTn) :: fz))) F6 (news_sub N6 fun p hp => ?_) ?_
                · simp only [List.mem_cons, List.mem_append] at hp ⊢; grind
                · rw [← I.row, hrem, walkLog_end I.on hin]
                  exact .list (.head _) (hlog.mono fun q hq => .tail _ hq)
              · intro hin
                repeat ((first | (with_reducible show wpAny _ _ _ _ _ _) | (with_reducible show ite _ _ _)); (fail_if_success (with_reducible show wpAny _ _ (exec (PySem.Stmt.While _ _ _ _) _) _ _ _)); (fail_if_success (with_reducible show wpAny _ _ (exec (PySem.Stmt.For _ _ _ _ _) _) _ _ _)); (fail_if_success (with_reducible show wpAny _ _ (pyIter _) _ _ _)); (fail_if_success (with_reducible show wpAny _ _ (subscriptTail _ _ _ _) _ _ _)); (fail_if_success (with_reducible show wpAny _ _ (call (Value.builtin "list.append") _) _ _ _)); (fail_if_success (with_reducible show wpAny _ _ (getMethod _ _ _) _ _ _)); (fail_if_success (with_reducible show wpAny _ _ (newList _) _ _ _)); (fail_if_success (with_reducible show wpAny _ _ (newTuple _) _ _ _)); (fail_if_success (with_reducible show wpAny _ _ (call (Value.ref _) _) _ _ _)); (fail_if_success (with_reducible show wpAny _ _ (exec (PySem.Stmt.Try _ _ _ _ _) _) _ _ _)); (fail_if_success (with_reducible show wpAny _ _ (compareOp _ _ _) _ _ _)); walk1; (try dsimp only))
                exact ⟨rem'.length, by rw [hrem]; simp, g2, _, _, _, siftup entLt ((Value.ref Tn, (r1 + 3, (k : Int), 1)) :: er) 0, hn, lvs ++ [Value.ref T9], ln + 1, (T9, oT) :: ((Tn, oTn) :: fz), lts ++ [((r1, (k : Int), r3), nameT x r3)], rem', rfl, rfl, {
                  T := T2, B := B2, X := X2, Tp := P2, D := D2
                  F := fr_k F31 (by kst_all)
                  N := N31
                  nh := fun q hq => (List.mem_cons.mp hq).elim (fun e => by rw [e]; exact Nat.ne_of_gt hTh) (hnh9 q)
                  nl := fun q hq => (List.mem_cons.mp hq).elim (fun e => by rw [e]; exact Nat.ne_of_gt hTl) (hnl9 q)
                  dat := fun e he => DatIn.mono (fun q hq => .tail _ hq) (hes9 e he)
                  ok := hok9
                  len := hlen9
                  heap := hheap9
                  log := hlog
                  on := fun u hu => by
                    rcases List.mem_append.mp hu with hu | hu
                    · exact I.on u hu
                    · rw [List.mem_singleton.mp hu]; exact hin
                  row := by rw [List.append_assoc, ← I.row, hrem]; rfl
                  pm := hpm9 }⟩
        case tryA =>
          by_cases hk3 : kindW x = 3
          · have hr3 : r3 = 0 := by rcases hcase with h | ⟨_, h, _⟩; (cases h; rfl); exact absurd hk3 h
            subst hr3
            have hbd : BadD (pairOf x) := by unfold pairOf; rw [if_pos hk3]; exact bad_mem x
            have hpv' := DatIn.mono (fun q hq => hmn q (hfw q hq)) hpv
            refine wpAny_Try_except ?_
            repeat ((first | (with_reducible show wpAny _ _ _ _ _ _) | (with_reducible show ite _ _ _)); (fail_if_success (with_reducible show wpAny _ _ (exec (PySem.Stmt.While _ _ _ _) _) _ _ _)); (fail_if_success (with_reducible show wpAny _ _ (exec (PySem.Stmt.For _ _ _ _ _) _) _ _ _)); (fail_if_success (with_reducible show wpAny _ _ (pyIter _) _ _ _)); (fail_if_success (with_reducible show wpAny _ _ (subscriptTail _ _ _ _) _ _ _)); (fail_if_success (with_reducible show wpAny _ _ (call (Value.builtin "list.append") _) _ _ _)); (fail_if_success (with_reducible show wpAny _ _ (getMethod _ _ _) _ _ _)); (fail_if_success (with_reducible show wpAny _ _ (newList _) _ _ _)); (fail_if_success (with_reducible show wpAny _ _ (newTuple _) _ _ _)); (fail_if_success (with_reducible show wpAny _ _ (call (Value.ref _) _) _ _ _)); (fail_if_success (with_reducible show wpAny _ _ (exec (PySem.Stmt.Try _ _ _ _ _) _) _ _ _)); (fail_if_success (with_reducible show wpAny _ _ (compareOp _ _ _) _ _ _)); walk1; (try dsimp only))
            walk1
            (try dsimp only)
            repeat ((first | (with_reducible show wpAny _ _ _ _ _ _) | (with_reducible show ite _ _ _)); (fail_if_success (with_reducible show wpAny _ _ (exec (PySem.Stmt.While _ _ _ _) _) _ _ _)); (fail_if_success (with_reducible show wpAny _ _ (exec (PySem.Stmt.For _ _ _ _ _) _) _ _ _)); (fail_if_success (with_reducible show wpAny _ _ (pyIter _) _ _ _)); (fail_if_success (with_reducible show wpAny _ _ (subscriptTail _ _ _ _) _ _ _)); (fail_if_success (with_reducible show wpAny _ _ (call (Value.builtin "list.append") _) _ _ _)); (fail_if_success (with_reducible show wpAny _ _ (getMethod _ _ _) _ _ _)); (fail_if_success (with_reducible show wpAny _ _ (newList _) _ _ _)); (fail_if_success (with_reducible show wpAny _ _ (newTuple _) _ _ _)); (fail_if_success (with_reducible show wpAny _ _ (call (Value.ref _) _) _ _ _)); (fail_if_success (with_reducible show wpAny _ _ (exec (PySem.Stmt.Try _ _ _ _ _) _) _ _ _)); (fail_if_success (with_reducible show wpAny _ _ (compareOp _ _ _) _ _ _)); walk1; (try dsimp only))
            rename Fr _ _ _ _ => F5
            rename News _ _ _ _ => N5
            refine ⟨X1.keeps F5.keep, ?_⟩
            k_dflt (refine build_bad B1 F5 X1 T1 rfl ?_ ?_ XB TB N5 hpv' hbd ?_)
            · ktr_room
            · ktr_units
            intro gx h5 tk5 ex tx ux FX RX UX
            dsimp only
            k_dflt (refine caught_X (T' := "TypeError") (p := p) (loose := loose) (mean := mean) (mg := mg) (mb := mb) (KF := Mine.hd.heap_39 w.params) RX FX B1 UX XB TB D1 I.T ?ex PyProof.Rows.Boot.«TypeError» ?hn PySem.F.isExc_TypeError PySem.F.notTuple_TypeError ?hs ?_; (case ex => k_is); (case hn => decide); (case hs => kts_sub))
            intro h6 g6 nw6 tk6 T6 F6 N6 G6 N6' B6 X6 P6 D6
            clear F5 N5 B1 X1 T1 D1 RX UX FX
            have N7 : News g6 L1 h6 (nw6 ++ _) := fun q hq => (List.mem_append.mp hq).elim (N6 q) (N6' q)
            clear N6 N6'
            repeat ((first | (with_reducible show wpAny _ _ _ _ _ _) | (with_reducible show ite _ _ _)); (fail_if_success (with_reducible show wpAny _ _ (exec (PySem.Stmt.While _ _ _ _) _) _ _ _)); (fail_if_success (with_reducible show wpAny _ _ (exec (PySem.Stmt.For _ _ _ _ _) _) _ _ _)); (fail_if_success (with_reducible show wpAny _ _ (pyIter _) _ _ _)); (fail_if_success (with_reducible show wpAny _ _ (subscriptTail _ _ _ _) _ _ _)); (fail_if_success (with_reducible show wpAny _ _ (call (Value.builtin "list.append") _) _ _ _)); (fail_if_success (with_reducible show wpAny _ _ (getMethod _ _ _) _ _ _)); (fail_if_success (with_reducible show wpAny _ _ (newList _) _ _ _)); (fail_if_success (with_reducible show wpAny _ _ (newTuple _) _ _ _)); (fail_if_success (with_reducible show wpAny _ _ (call (Value.ref _) _) _ _ _)); (fail_if_success (with_reducible show wpAny _ _ (exec (PySem.Stmt.Try _ _ _ _ _) _) _ _ _)); (fail_if_success (with_reducible show wpAny _ _ (compareOp _ _ _) _ _ _)); walk1; (try dsimp only))
            refine str_got_one PySem.F.excStr_TypeError (fun q hq => N7 q (List.mem_append.mpr (.inl hq))) G6 ?_ ?_
            · ktr_units
            repeat ((first | (with_reducible show wpAny _ _ _ _ _ _) | (with_reducible show ite _ _ _)); (fail_if_success (with_reducible show wpAny _ _ (exec (PySem.Stmt.While _ _ _ _) _) _ _ _)); (fail_if_success (with_reducible show wpAny _ _ (exec (PySem.Stmt.For _ _ _ _ _) _) _ _ _)); (fail_if_success (with_reducible show wpAny _ _ (pyIter _) _ _ _)); (fail_if_success (with_reducible show wpAny _ _ (subscriptTail _ _ _ _) _ _ _)); (fail_if_success (with_reducible show wpAny _ _ (call (Value.builtin "list.append") _) _ _ _)); (fail_if_success (with_reducible show wpAny _ _ (getMethod _ _ _) _ _ _)); (fail_if_success (with_reducible show wpAny _ _ (newList _) _ _ _)); (fail_if_success (with_reducible show wpAny _ _ (newTuple _) _ _ _)); (fail_if_success (with_reducible show wpAny _ _ (call (Value.ref _) _) _ _ _)); (fail_if_success (with_reducible show wpAny _ _ (exec (PySem.Stmt.Try _ _ _ _ _) _) _ _ _)); (fail_if_success (with_reducible show wpAny _ _ (compareOp _ _ _) _ _ _)); walk1; (try dsimp only))
            rename Fr _ _ _ _ => F8
            rename News _ _ _ _ => N8
            refine name_goes_X F8 N8 ?_
            intro h9 ve F9 N9
            have hnm : nameT x 0 = badMsg := by unfold nameT; rw [if_pos rfl, if_pos hk3]
            refine ⟨rfl, g6, h9, _, _, ux, false, rfl, T6, B6, X6, P6, D6, fr_k F9 ?_, news_sub N9 fun q hq => List.mem_append.mpr (.inr hq), by simp [hk3]⟩
            rw [hnm]
            kst_all
          · have hpl := hpv
            obtain ⟨pa, v1, v2, rfl, hpa, dv1, dv2⟩ := pair_of hpv hk3
            have hpa' := hpa.mono (fun q hq => hmn q (hfw q hq))
            refine wpAny_Try_except ?_
            rcases hcase with hc0 | ⟨hc1, _, henc⟩
            · cases hc0
              cases he : encOf x with
              | none =>
                rw [he] at dv2
                cases dv2
                repeat ((first | (with_reducible show wpAny _ _ _ _ _ _) | (with_reducible show ite _ _ _)); (fail_if_success (with_reducible show wpAny _ _ (exec (PySem.Stmt.While _ _ _ _) _) _ _ _)); (fail_if_success (with_reducible show wpAny _ _ (exec (PySem.Stmt.For _ _ _ _ _) _) _ _ _)); (fail_if_success (with_reducible show wpAny _ _ (pyIter _) _ _ _)); (fail_if_success (with_reducible show wpAny _ _ (subscriptTail _ _ _ _) _ _ _)); (fail_if_success (with_reducible show wpAny _ _ (call (Value.builtin "list.append") _) _ _ _)); (fail_if_success (with_reducible show wpAny _ _ (getMethod _ _ _) _ _ _)); (fail_if_success (with_reducible show wpAny _ _ (newList _) _ _ _)); (fail_if_success (with_reducible show wpAny _ _ (newTuple _) _ _ _)); (fail_if_success (with_reducible show wpAny _ _ (call (Value.ref _) _) _ _ _)); (fail_if_success (with_reducible show wpAny _ _ (exec (PySem.Stmt.Try _ _ _ _ _) _) _ _ _)); (fail_if_success (with_reducible show wpAny _ _ (compareOp _ _ _) _ _ _)); walk1; (try dsimp only))
                walk1
                (try dsimp only)
                repeat ((first | (with_reducible show wpAny _ _ _ _ _ _) | (with_reducible show ite _ _ _)); (fail_if_success (with_reducible show wpAny _ _ (exec (PySem.Stmt.While _ _ _ _) _) _ _ _)); (fail_if_success (with_reducible show wpAny _ _ (exec (PySem.Stmt.For _ _ _ _ _) _) _ _ _)); (fail_if_success (with_reducible show wpAny _ _ (pyIter _) _ _ _)); (fail_if_success (with_reducible show wpAny _ _ (subscriptTail _ _ _ _) _ _ _)); (fail_if_success (with_reducible show wpAny _ _ (call (Value.builtin "list.append") _) _ _ _)); (fail_if_success (with_reducible show wpAny _ _ (getMethod _ _ _) _ _ _)); (fail_if_success (with_reducible show wpAny _ _ (newList _) _ _ _)); (fail_if_success (with_reducible show wpAny _ _ (newTuple _) _ _ _)); (fail_if_success (with_reducible show wpAny _ _ (call (Value.ref _) _) _ _ _)); (fail_if_success (with_reducible show wpAny _ _ (exec (PySem.Stmt.Try _ _ _ _ _) _) _ _ _)); (fail_if_success (with_reducible show wpAny _ _ (compareOp _ _ _) _ _ _)); walk1; (try dsimp only))
                rename Fr _ _ _ _ => F5
                rename News _ _ _ _ => N5
                refine ⟨X1.keeps F5.keep, ?_⟩
                k_dflt (refine build_pair_ok (x := x) B1 F5 X1 T1 rfl ?_ ?_ N5 (DatIn.mono (fun q hq => hmn q (hfw q hq)) hpl) hk3 ?_)
                · ktr_room
                · ktr_units
                intro h6 tk6 t6 F6 N6
                repeat ((first | (with_reducible show wpAny _ _ _ _ _ _) | (with_reducible show ite _ _ _)); (fail_if_success (with_reducible show wpAny _ _ (exec (PySem.Stmt.While _ _ _ _) _) _ _ _)); (fail_if_success (with_reducible show wpAny _ _ (exec (PySem.Stmt.For _ _ _ _ _) _) _ _ _)); (fail_if_success (with_reducible show wpAny _ _ (pyIter _) _ _ _)); (fail_if_success (with_reducible show wpAny _ _ (subscriptTail _ _ _ _) _ _ _)); (fail_if_success (with_reducible show wpAny _ _ (call (Value.builtin "list.append") _) _ _ _)); (fail_if_success (with_reducible show wpAny _ _ (getMethod _ _ _) _ _ _)); (fail_if_success (with_reducible show wpAny _ _ (newList _) _ _ _)); (fail_if_success (with_reducible show wpAny _ _ (newTuple _) _ _ _)); (fail_if_success (with_reducible show wpAny _ _ (call (Value.ref _) _) _ _ _)); (fail_if_success (with_reducible show wpAny _ _ (exec (PySem.Stmt.Try _ _ _ _ _) _) _ _ _)); (fail_if_success (with_reducible show wpAny _ _ (compareOp _ _ _) _ _ _)); walk1; (try dsimp only))
                walk1
                (try dsimp only)
                repeat ((first | (with_reducible show wpAny _ _ _ _ _ _) | (with_reducible show ite _ _ _)); (fail_if_success (with_reducible show wpAny _ _ (exec (PySem.Stmt.While _ _ _ _) _) _ _ _)); (fail_if_success (with_reducible show wpAny _ _ (exec (PySem.Stmt.For _ _ _ _ _) _) _ _ _)); (fail_if_success (with_reducible show wpAny _ _ (pyIter _) _ _ _)); (fail_if_success (with_reducible show wpAny _ _ (subscriptTail _ _ _ _) _ _ _)); (fail_if_success (with_reducible show wpAny _ _ (call (Value.builtin "list.append") _) _ _ _)); (fail_if_success (with_reducible show wpAny _ _ (getMethod _ _ _) _ _ _)); (fail_if_success (with_reducible show wpAny _ _ (newList _) _ _ _)); (fail_if_success (with_reducible show wpAny _ _ (newTuple _) _ _ _)); (fail_if_success (with_reducible show wpAny _ _ (call (Value.ref _) _) _ _ _)); (fail_if_success (with_reducible show wpAny _ _ (exec (PySem.Stmt.Try _ _ _ _ _) _) _ _ _)); (fail_if_success (with_reducible show wpAny _ _ (compareOp _ _ _) _ _ _)); walk1; (try dsimp only))
                rename News _ _ _ _ => N7
                refine pair_item1 N7 hpa' ?_
                repeat ((first | (with_reducible show wpAny _ _ _ _ _ _) | (with_reducible show ite _ _ _)); (fail_if_success (with_reducible show wpAny _ _ (exec (PySem.Stmt.While _ _ _ _) _) _ _ _)); (fail_if_success (with_reducible show wpAny _ _ (exec (PySem.Stmt.For _ _ _ _ _) _) _ _ _)); (fail_if_success (with_reducible show wpAny _ _ (pyIter _) _ _ _)); (fail_if_success (with_reducible show wpAny _ _ (subscriptTail _ _ _ _) _ _ _)); (fail_if_success (with_reducible show wpAny _ _ (call (Value.builtin "list.append") _) _ _ _)); (fail_if_success (with_reducible show wpAny _ _ (getMethod _ _ _) _ _ _)); (fail_if_success (with_reducible show wpAny _ _ (newList _) _ _ _)); (fail_if_success (with_reducible show wpAny _ _ (newTuple _) _ _ _)); (fail_if_success (with_reducible show wpAny _ _ (call (Value.ref _) _) _ _ _)); (fail_if_success (with_reducible show wpAny _ _ (exec (PySem.Stmt.Try _ _ _ _ _) _) _ _ _)); (fail_if_success (with_reducible show wpAny _ _ (compareOp _ _ _) _ _ _)); walk1; (try dsimp only))
                walk1
                (try dsimp only)
                repeat ((first | (with_reducible show wpAny _ _ _ _ _ _) | (with_reducible show ite _ _ _)); (fail_if_success (with_reducible show wpAny _ _ (exec (PySem.Stmt.While _ _ _ _) _) _ _ _)); (fail_if_success (with_reducible show wpAny _ _ (exec (PySem.Stmt.For _ _ _ _ _) _) _ _ _)); (fail_if_success (with_reducible show wpAny _ _ (pyIter _) _ _ _)); (fail_if_success (with_reducible show wpAny _ _ (subscriptTail _ _ _ _) _ _ _)); (fail_if_success (with_reducible show wpAny _ _ (call (Value.builtin "list.append") _) _ _ _)); (fail_if_success (with_reducible show wpAny _ _ (getMethod _ _ _) _ _ _)); (fail_if_success (with_reducible show wpAny _ _ (newList _) _ _ _)); (fail_if_success (with_reducible show wpAny _ _ (newTuple _) _ _ _)); (fail_if_success (with_reducible show wpAny _ _ (call (Value.ref _) _) _ _ _)); (fail_if_success (with_reducible show wpAny _ _ (exec (PySem.Stmt.Try _ _ _ _ _) _) _ _ _)); (fail_if_success (with_reducible show wpAny _ _ (compareOp _ _ _) _ _ _)); walk1; (try dsimp only))
                rename Fr _ _ _ _ => F8
                rename News _ _ _ _ => N8
                have hnm : nameT x 0 = nameOf (langOf x) (encOf x) := by unfold nameT; rw [if_pos rfl, if_neg hk3]
                refine ⟨rfl, g', _, _, _, t6, false, rfl, I.T, B1, X1, T1, D1, fr_k F8 ?_, N8, by simp [he, hk3]⟩
                rw [hnm]
                kst_all
              | some ee =>
                rw [he] at dv2
                cases dv2
                repeat ((first | (with_reducible show wpAny _ _ _ _ _ _) | (with_reducible show ite _ _ _)); (fail_if_success (with_reducible show wpAny _ _ (exec (PySem.Stmt.While _ _ _ _) _) _ _ _)); (fail_if_success (with_reducible show wpAny _ _ (exec (PySem.Stmt.For _ _ _ _ _) _) _ _ _)); (fail_if_success (with_reducible show wpAny _ _ (pyIter _) _ _ _)); (fail_if_success (with_reducible show wpAny _ _ (subscriptTail _ _ _ _) _ _ _)); (fail_if_success (with_reducible show wpAny _ _ (call (Value.builtin "list.append") _) _ _ _)); (fail_if_success (with_reducible show wpAny _ _ (getMethod _ _ _) _ _ _)); (fail_if_success (with_reducible show wpAny _ _ (newList _) _ _ _)); (fail_if_success (with_reducible show wpAny _ _ (newTuple _) _ _ _)); (fail_if_success (with_reducible show wpAny _ _ (call (Value.ref _) _) _ _ _)); (fail_if_success (with_reducible show wpAny _ _ (exec (PySem.Stmt.Try _ _ _ _ _) _) _ _ _)); (fail_if_success (with_reducible show wpAny _ _ (compareOp _ _ _) _ _ _)); walk1; (try dsimp only))
                walk1
                (try dsimp only)
                repeat ((first | (with_reducible show wpAny _ _ _ _ _ _) | (with_reducible show ite _ _ _)); (fail_if_success (with_reducible show wpAny _ _ (exec (PySem.Stmt.While _ _ _ _) _) _ _ _)); (fail_if_success (with_reducible show wpAny _ _ (exec (PySem.Stmt.For _ _ _ _ _) _) _ _ _)); (fail_if_success (with_reducible show wpAny _ _ (pyIter _) _ _ _)); (fail_if_success (with_reducible show wpAny _ _ (subscriptTail _ _ _ _) _ _ _)); (fail_if_success (with_reducible show wpAny _ _ (call (Value.builtin "list.append") _) _ _ _)); (fail_if_success (with_reducible show wpAny _ _ (getMethod _ _ _) _ _ _)); (fail_if_success (with_reducible show wpAny _ _ (newList _) _ _ _)); (fail_if_success (with_reducible show wpAny _ _ (newTuple _) _ _ _)); (fail_if_success (with_reducible show wpAny _ _ (call (Value.ref _) _) _ _ _)); (fail_if_success (with_reducible show wpAny _ _ (exec (PySem.Stmt.Try _ _ _ _ _) _) _ _ _)); (fail_if_success (with_reducible show wpAny _ _ (compareOp _ _ _) _ _ _)); walk1; (try dsimp only))
                rename Fr _ _ _ _ => F5
                rename News _ _ _ _ => N5
                refine ⟨X1.keeps F5.keep, ?_⟩
                k_dflt (refine build_pair_ok (x := x) B1 F5 X1 T1 rfl ?_ ?_ N5 (DatIn.mono (fun q hq => hmn q (hfw q hq)) hpl) hk3 ?_)
                · ktr_room
                · ktr_units
                intro h6 tk6 t6 F6 N6
                repeat ((first | (with_reducible show wpAny _ _ _ _ _ _) | (with_reducible show ite _ _ _)); (fail_if_success (with_reducible show wpAny _ _ (exec (PySem.Stmt.While _ _ _ _) _) _ _ _)); (fail_if_success (with_reducible show wpAny _ _ (exec (PySem.Stmt.For _ _ _ _ _) _) _ _ _)); (fail_if_success (with_reducible show wpAny _ _ (pyIter _) _ _ _)); (fail_if_success (with_reducible show wpAny _ _ (subscriptTail _ _ _ _) _ _ _)); (fail_if_success (with_reducible show wpAny _ _ (call (Value.builtin "list.append") _) _ _ _)); (fail_if_success (with_reducible show wpAny _ _ (getMethod _ _ _) _ _ _)); (fail_if_success (with_reducible show wpAny _ _ (newList _) _ _ _)); (fail_if_success (with_reducible show wpAny _ _ (newTuple _) _ _ _)); (fail_if_success (with_reducible show wpAny _ _ (call (Value.ref _) _) _ _ _)); (fail_if_success (with_reducible show wpAny _ _ (exec (PySem.Stmt.Try _ _ _ _ _) _) _ _ _)); (fail_if_success (with_reducible show wpAny _ _ (compareOp _ _ _) _ _ _)); walk1; (try dsimp only))
                walk1
                (try dsimp only)
                repeat ((first | (with_reducible show wpAny _ _ _ _ _ _) | (with_reducible show ite _ _ _)); (fail_if_success (with_reducible show wpAny _ _ (exec (PySem.Stmt.While _ _ _ _) _) _ _ _)); (fail_if_success (with_reducible show wpAny _ _ (exec (PySem.Stmt.For _ _ _ _ _) _) _ _ _)); (fail_if_success (with_reducible show wpAny _ _ (pyIter _) _ _ _)); (fail_if_success (with_reducible show wpAny _ _ (subscriptTail _ _ _ _) _ _ _)); (fail_if_success (with_reducible show wpAny _ _ (call (Value.builtin "list.append") _) _ _ _)); (fail_if_success (with_reducible show wpAny _ _ (getMethod _ _ _) _ _ _)); (fail_if_success (with_reducible show wpAny _ _ (newList _) _ _ _)); (fail_if_success (with_reducible show wpAny _ _ (newTuple _) _ _ _)); (fail_if_success (with_reducible show wpAny _ _ (call (Value.ref _) _) _ _ _)); (fail_if_success (with_reducible show wpAny _ _ (exec (PySem.Stmt.Try _ _ _ _ _) _) _ _ _)); (fail_if_success (with_reducible show wpAny _ _ (compareOp _ _ _) _ _ _)); walk1; (try dsimp only))
                rename News _ _ _ _ => N7
                refine pair_item1 N7 hpa' ?_
                repeat ((first | (with_reducible show wpAny _ _ _ _ _ _) | (with_reducible show ite _ _ _)); (fail_if_success (with_reducible show wpAny _ _ (exec (PySem.Stmt.While _ _ _ _) _) _ _ _)); (fail_if_success (with_reducible show wpAny _ _ (exec (PySem.Stmt.For _ _ _ _ _) _) _ _ _)); (fail_if_success (with_reducible show wpAny _ _ (pyIter _) _ _ _)); (fail_if_success (with_reducible show wpAny _ _ (subscriptTail _ _ _ _) _ _ _)); (fail_if_success (with_reducible show wpAny _ _ (call (Value.builtin "list.append") _) _ _ _)); (fail_if_success (with_reducible show wpAny _ _ (getMethod _ _ _) _ _ _)); (fail_if_success (with_reducible show wpAny _ _ (newList _) _ _ _)); (fail_if_success (with_reducible show wpAny _ _ (newTuple _) _ _ _)); (fail_if_success (with_reducible show wpAny _ _ (call (Value.ref _) _) _ _ _)); (fail_if_success (with_reducible show wpAny _ _ (exec (PySem.Stmt.Try _ _ _ _ _) _) _ _ _)); (fail_if_success (with_reducible show wpAny _ _ (compareOp _ _ _) _ _ _)); walk1; (try dsimp only))
                walk1
                (try dsimp only)
                repeat ((first | (with_reducible show wpAny _ _ _ _ _ _) | (with_reducible show ite _ _ _)); (fail_if_success (with_reducible show wpAny _ _ (exec (PySem.Stmt.While _ _ _ _) _) _ _ _)); (fail_if_success (with_reducible show wpAny _ _ (exec (PySem.Stmt.For _ _ _ _ _) _) _ _ _)); (fail_if_success (with_reducible show wpAny _ _ (pyIter _) _ _ _)); (fail_if_success (with_reducible show wpAny _ _ (subscriptTail _ _ _ _) _ _ _)); (fail_if_success (with_reducible show wpAny _ _ (call (Value.builtin "list.append") _) _ _ _)); (fail_if_success (with_reducible show wpAny _ _ (getMethod _ _ _) _ _ _)); (fail_if_success (with_reducible show wpAny _ _ (newList _) _ _ _)); (fail_if_success (with_reducible show wpAny _ _ (newTuple _) _ _ _)); (fail_if_success (with_reducible show wpAny _ _ (call (Value.ref _) _) _ _ _)); (fail_if_success (with_reducible show wpAny _ _ (exec (PySem.Stmt.Try _ _ _ _ _) _) _ _ _)); (fail_if_success (with_reducible show wpAny _ _ (compareOp _ _ _) _ _ _)); walk1; (try dsimp only))
                rename Fr _ _ _ _ => F8
                rename News _ _ _ _ => N8
                have hnm : nameT x 0 = nameOf (langOf x) (encOf x) := by unfold nameT; rw [if_pos rfl, if_neg hk3]
                refine ⟨rfl, g', _, _, _, t6, true, rfl, I.T, B1, X1, T1, D1, fr_k F8 ?_, N8, by simp [he, hk3]⟩
                rw [hnm]
                kst_all
            · cases hc1
              repeat ((first | (with_reducible show wpAny _ _ _ _ _ _) | (with_reducible show ite _ _ _)); (fail_if_success (with_reducible show wpAny _ _ (exec (PySem.Stmt.While _ _ _ _) _) _ _ _)); (fail_if_success (with_reducible show wpAny _ _ (exec (PySem.Stmt.For _ _ _ _ _) _) _ _ _)); (fail_if_success (with_reducible show wpAny _ _ (pyIter _) _ _ _)); (fail_if_success (with_reducible show wpAny _ _ (subscriptTail _ _ _ _) _ _ _)); (fail_if_success (with_reducible show wpAny _ _ (call (Value.builtin "list.append") _) _ _ _)); (fail_if_success (with_reducible show wpAny _ _ (getMethod _ _ _) _ _ _)); (fail_if_success (with_reducible show wpAny _ _ (newList _) _ _ _)); (fail_if_success (with_reducible show wpAny _ _ (newTuple _) _ _ _)); (fail_if_success (with_reducible show wpAny _ _ (call (Value.ref _) _) _ _ _)); (fail_if_success (with_reducible show wpAny _ _ (exec (PySem.Stmt.Try _ _ _ _ _) _) _ _ _)); (fail_if_success (with_reducible show wpAny _ _ (compareOp _ _ _) _ _ _)); walk1; (try dsimp only))
              walk1
              (try dsimp only)
              repeat ((first | (with_reducible show wpAny _ _ _ _ _ _) | (with_reducible show ite _ _ _)); (fail_if_success (with_reducible show wpAny _ _ (exec (PySem.Stmt.While _ _ _ _) _) _ _ _)); (fail_if_success (with_reducible show wpAny _ _ (exec (PySem.Stmt.For _ _ _ _ _) _) _ _ _)); (fail_if_success (with_reducible show wpAny _ _ (pyIter _) _ _ _)); (fail_if_success (with_reducible show wpAny _ _ (subscriptTail _ _ _ _) _ _ _)); (fail_if_success (with_reducible show wpAny _ _ (call (Value.builtin "list.append") _) _ _ _)); (fail_if_success (with_reducible show wpAny _ _ (getMethod _ _ _) _ _ _)); (fail_if_success (with_reducible show wpAny _ _ (newList _) _ _ _)); (fail_if_success (with_reducible show wpAny _ _ (newTuple _) _ _ _)); (fail_if_success (with_reducible show wpAny _ _ (call (Value.ref _) _) _ _ _)); (fail_if_success (with_reducible show wpAny _ _ (exec (PySem.Stmt.Try _ _ _ _ _) _) _ _ _)); (fail_if_success (with_reducible show wpAny _ _ (compareOp _ _ _) _ _ _)); walk1; (try dsimp only))
              rename Fr _ _ _ _ => F5
              rename News _ _ _ _ => N5
              refine pair_item0 N5 hpa' ?_
              repeat ((first | (with_reducible show wpAny _ _ _ _ _ _) | (with_reducible show ite _ _ _)); (fail_if_success (with_reducible show wpAny _ _ (exec (PySem.Stmt.While _ _ _ _) _) _ _ _)); (fail_if_success (with_reducible show wpAny _ _ (exec (PySem.Stmt.For _ _ _ _ _) _) _ _ _)); (fail_if_success (with_reducible show wpAny _ _ (pyIter _) _ _ _)); (fail_if_success (with_reducible show wpAny _ _ (subscriptTail _ _ _ _) _ _ _)); (fail_if_success (with_reducible show wpAny _ _ (call (Value.builtin "list.append") _) _ _ _)); (fail_if_success (with_reducible show wpAny _ _ (getMethod _ _ _) _ _ _)); (fail_if_success (with_reducible show wpAny _ _ (newList _) _ _ _)); (fail_if_success (with_reducible show wpAny _ _ (newTuple _) _ _ _)); (fail_if_success (with_reducible show wpAny _ _ (call (Value.ref _) _) _ _ _)); (fail_if_success (with_reducible show wpAny _ _ (exec (PySem.Stmt.Try _ _ _ _ _) _) _ _ _)); (fail_if_success (with_reducible show wpAny _ _ (compareOp _ _ _) _ _ _)); walk1; (try dsimp only))
              refine tup_new F5 N5 ?_ (by rw [sizeLine_eq]; simp)
              intro Tn h15 F15 N15 lt15
              repeat ((first | (with_reducible show wpAny _ _ _ _ _ _) | (with_reducible show ite _ _ _)); (fail_if_success (with_reducible show wpAny _ _ (exec (PySem.Stmt.While _ _ _ _) _) _ _ _)); (fail_if_success (with_reducible show wpAny _ _ (exec (PySem.Stmt.For _ _ _ _ _) _) _ _ _)); (fail_if_success (with_reducible show wpAny _ _ (pyIter _) _ _ _)); (fail_if_success (with_reducible show wpAny _ _ (subscriptTail _ _ _ _) _ _ _)); (fail_if_success (with_reducible show wpAny _ _ (call (Value.builtin "list.append") _) _ _ _)); (fail_if_success (with_reducible show wpAny _ _ (getMethod _ _ _) _ _ _)); (fail_if_success (with_reducible show wpAny _ _ (newList _) _ _ _)); (fail_if_success (with_reducible show wpAny _ _ (newTuple _) _ _ _)); (fail_if_success (with_reducible show wpAny _ _ (call (Value.ref _) _) _ _ _)); (fail_if_success (with_reducible show wpAny _ _ (exec (PySem.Stmt.Try _ _ _ _ _) _) _ _ _)); (fail_if_success (with_reducible show wpAny _ _ (compareOp _ _ _) _ _ _)); walk1; (try dsimp only))
              refine ⟨X1.keeps F15.keep, ?_⟩
              k_dflt (refine build_tuple_ok (l := langOf x) (e := none) B1 F15 X1 T1 rfl ?_ ?_ N15 (.tuple (.head _) (.cons (DatIn.up dv1) (.cons .none .nil))) (short_lang x) short_none ?_)
              · ktr_room
              · ktr_units
              intro h6 tk6 t6 F6 N6
              repeat ((first | (with_reducible show wpAny _ _ _ _ _ _) | (with_reducible show ite _ _ _)); (fail_if_success (with_reducible show wpAny _ _ (exec (PySem.Stmt.While _ _ _ _) _) _ _ _)); (fail_if_success (with_reducible show wpAny _ _ (exec (PySem.Stmt.For _ _ _ _ _) _) _ _ _)); (fail_if_success (with_reducible show wpAny _ _ (pyIter _) _ _ _)); (fail_if_success (with_reducible show wpAny _ _ (subscriptTail _ _ _ _) _ _ _)); (fail_if_success (with_reducible show wpAny _ _ (call (Value.builtin "list.append") _) _ _ _)); (fail_if_success (with_reducible show wpAny _ _ (getMethod _ _ _) _ _ _)); (fail_if_success (with_reducible show wpAny _ _ (newList _) _ _ _)); (fail_if_success (with_reducible show wpAny _ _ (newTuple _) _ _ _)); (fail_if_success (with_reducible show wpAny _ _ (call (Value.ref _) _) _ _ _)); (fail_if_success (with_reducible show wpAny _ _ (exec (PySem.Stmt.Try _ _ _ _ _) _) _ _ _)); (fail_if_success (with_reducible show wpAny _ _ (compareOp _ _ _) _ _ _)); walk1; (try dsimp only))
              walk1
              (try dsimp only)
              repeat ((first | (with_reducible show wpAny _ _ _ _ _ _) | (with_reducible show ite _ _ _)); (fail_if_success (with_reducible show wpAny _ _ (exec (PySem.Stmt.While _ _ _ _) _) _ _ _)); (fail_if_success (with_reducible show wpAny _ _ (exec (PySem.Stmt.For _ _ _ _ _) _) _ _ _)); (fail_if_success (with_reducible show wpAny _ _ (pyIter _) _ _ _)); (fail_if_success (with_reducible show wpAny _ _ (subscriptTail _ _ _ _) _ _ _)); (fail_if_success (with_reducible show wpAny _ _ (call (Value.builtin "list.append") _) _ _ _)); (fail_if_success (with_reducible show wpAny _ _ (getMethod _ _ _) _ _ _)); (fail_if_success (with_reducible show wpAny _ _ (newList _) _ _ _)); (fail_if_success (with_reducible show wpAny _ _ (newTuple _) _ _ _)); (fail_if_success (with_reducible show wpAny _ _ (call (Value.ref _) _) _ _ _)); (fail_if_success (with_reducible show wpAny _ _ (exec (PySem.Stmt.Try _ _ _ _ _) _) _ _ _)); (fail_if_success (with_reducible show wpAny _ _ (compareOp _ _ _) _ _ _)); walk1; (try dsimp only))
              rename Fr _ _ _ _ => F8
              rename News _ _ _ _ => N8
              refine ⟨rfl, g', _, _, _, t6, false, rfl, I.T, B1, X1, T1, D1, fr_k F8 ?_, news_sub N8 (fun q hq => .tail _ hq), by simp⟩
              rw [show nameT x 1 = nameOf (langOf x) none by unfold nameT; rw [if_neg (by decide)]]
              kst_all
  exact key wvs.length 0 [] [] (by omega) (by simp [startL]) (fun e he => nomatch he)
end Mine
end PartS12
section PartS13
open PySem PySem.W PyProof.Rows
set_option maxRecDepth 100000
set_option Elab.async false
namespace Mine
theorem list_of {new : List (Addr × Obj)} {r : Value} {ds : List Dat} (h : DatIn new r (.list ds)) : ∃ a vs n, r = .ref a ∧ (a, listOf vs.toArray n) ∈ new ∧ DatAll new vs ds := by
  cases h with
  | list hm hd => exact ⟨_, _, _, rfl, hm, hd⟩
theorem strs_free {new : List (Addr × Obj)} : ∀ {zs : List Str} {tvs : List Value}, DatAll new tvs (zs.map Dat.str) → DatAll [] tvs (zs.map Dat.str)
  | [], tvs, h => by cases h; exact .nil
  | z :: zs, tvs, h => by
    cases h with
    | cons a b => cases a; exact .cons (.str _ _) (strs_free b)
theorem log_ok {zs : List Str} : ∀ {us : List Try}, (∀ t ∈ us, kqdOk 8 (.str t.2) = true) → ∀ d ∈ walkLog zs us, kqdOk 8 d = true
  | [], _, d, hd => by rw [List.mem_singleton.mp hd]; kernel_rfl
  | t :: r, h, d, hd => by
    rcases List.mem_cons.mp hd with rfl | hd
    · have h1 : PyData.strOk t.2 = true := h t (.head _)
      simp [logD, triD, kqdOk, h1]
    · split at hd
      · cases hd
      · exact log_ok (fun u hu => h u (.tail _ hu)) d hd
theorem fill13 (P : Params) : (fun (_ : OpenLaw) => nsIn (Mine.hd.heap_39 P) mainGlobals (Str.ofString "zz")) PySem.Challenge.rw_oy0031_01 = (fun (_ : OpenLaw) => nsIn (Mine.hd.heap_39 P) mainGlobals (Str.ofString "zz")) PySem.Challenge.rw_oy0031_01 := by
  k_fill
  rfl
set_option maxHeartbeats 8000000 in
theorem top0 : PySem.Challenge.rw_oy0031_01.Holds :=
  Mine.hd (by
    k_go0
    (all_goals try k_fold)
    repeat ((first | (with_reducible show wpAny _ _ _ _ _ _) | (with_reducible show ite _ _ _)); (fail_if_success (with_reducible show wpAny _ _ (exec (PySem.Stmt.While _ _ _ _) _) _ _ _)); (fail_if_success (with_reducible show wpAny _ _ (exec (PySem.Stmt.For _ _ _ _ _) _) _ _ _)); (fail_if_success (with_reducible show wpAny _ _ (pyIter _) _ _ _)); (fail_if_success (with_reducible show wpAny _ _ (subscriptTail _ _ _ _) _ _ _)); (fail_if_success (with_reducible show wpAny _ _ (call (Value.builtin "list.append") _) _ _ _)); (fail_if_success (with_reducible show wpAny _ _ (getMethod _ _ _) _ _ _)); (fail_if_success (with_reducible show wpAny _ _ (newList _) _ _ _)); (fail_if_success (with_reducible show wpAny _ _ (newTuple _) _ _ _)); (fail_if_success (with_reducible show wpAny _ _ (call (Value.ref _) _) _ _ _)); (fail_if_success (with_reducible show wpAny _ _ (exec (PySem.Stmt.Try _ _ _ _ _) _) _ _ _)); (fail_if_success (with_reducible show wpAny _ _ (compareOp _ _ _) _ _ _)); walk1; (try dsimp only))
    rename Top _ _ _ _ _ _ => T1
    rename Below _ _ _ _ => K1
    rename Fr _ _ _ _ => F1
    rename News _ _ _ _ => N1
    rename IntsAre _ _ => hI1
    rename Heap.IsList _ _ _ => hL1
    rename Frag.In _ _ => X1
    rename ¬ (_ < _) => hlen
    rename_i ns _ _ _ _ _ _ _ sl svs _ _ _ _ _ _ _ _
    have hlen' : ns.length ≤ 63 := by omega
    refine ⟨X1.keeps F1.keep, ?_⟩
    k_dflt (refine wishes_ok K1 F1 X1 T1 rfl ?_ ?_ N1 hL1 hI1 hlen' ?_)
    · ktr_room
    · ktr_units
    intro h2 tk2 r2 new2 F2 N2 D2
    obtain ⟨wl, wvs, wn, rfl, hwl, hW⟩ := list_of D2
    clear D2
    repeat ((first | (with_reducible show wpAny _ _ _ _ _ _) | (with_reducible show ite _ _ _)); (fail_if_success (with_reducible show wpAny _ _ (exec (PySem.Stmt.While _ _ _ _) _) _ _ _)); (fail_if_success (with_reducible show wpAny _ _ (exec (PySem.Stmt.For _ _ _ _ _) _) _ _ _)); (fail_if_success (with_reducible show wpAny _ _ (pyIter _) _ _ _)); (fail_if_success (with_reducible show wpAny _ _ (subscriptTail _ _ _ _) _ _ _)); (fail_if_success (with_reducible show wpAny _ _ (call (Value.builtin "list.append") _) _ _ _)); (fail_if_success (with_reducible show wpAny _ _ (getMethod _ _ _) _ _ _)); (fail_if_success (with_reducible show wpAny _ _ (newList _) _ _ _)); (fail_if_success (with_reducible show wpAny _ _ (newTuple _) _ _ _)); (fail_if_success (with_reducible show wpAny _ _ (call (Value.ref _) _) _ _ _)); (fail_if_success (with_reducible show wpAny _ _ (exec (PySem.Stmt.Try _ _ _ _ _) _) _ _ _)); (fail_if_success (with_reducible show wpAny _ _ (compareOp _ _ _) _ _ _)); walk1; (try dsimp only))
    rename Fr _ _ _ _ => F3
    rename News _ _ _ _ => N3
    refine ⟨X1.keeps F3.keep, ?_⟩
    k_dflt (refine there_ok K1 F3 X1 T1 rfl ?_ ?_ N3 hL1 hI1 hlen' ?_)
    · ktr_room
    · ktr_units
    intro h4 tk4 r4 new4 zs F4 N4 D4 hzl hzn
    obtain ⟨tl, tvs, tn, rfl, htl, hTh⟩ := list_of D4
    clear D4
    replace hTh := strs_free hTh
    have hz : ∀ z ∈ zs, kqdOk 8 (.str z) = true := by
      intro z hz
      obtain ⟨l, hl, e, he, rfl⟩ := hzn z hz
      exact name_ok hl he
    repeat ((first | (with_reducible show wpAny _ _ _ _ _ _) | (with_reducible show ite _ _ _)); (fail_if_success (with_reducible show wpAny _ _ (exec (PySem.Stmt.While _ _ _ _) _) _ _ _)); (fail_if_success (with_reducible show wpAny _ _ (exec (PySem.Stmt.For _ _ _ _ _) _) _ _ _)); (fail_if_success (with_reducible show wpAny _ _ (pyIter _) _ _ _)); (fail_if_success (with_reducible show wpAny _ _ (subscriptTail _ _ _ _) _ _ _)); (fail_if_success (with_reducible show wpAny _ _ (call (Value.builtin "list.append") _) _ _ _)); (fail_if_success (with_reducible show wpAny _ _ (getMethod _ _ _) _ _ _)); (fail_if_success (with_reducible show wpAny _ _ (newList _) _ _ _)); (fail_if_success (with_reducible show wpAny _ _ (newTuple _) _ _ _)); (fail_if_success (with_reducible show wpAny _ _ (call (Value.ref _) _) _ _ _)); (fail_if_success (with_reducible show wpAny _ _ (exec (PySem.Stmt.Try _ _ _ _ _) _) _ _ _)); (fail_if_success (with_reducible show wpAny _ _ (compareOp _ _ _) _ _ _)); walk1; (try dsimp only))
    rename Fr _ _ _ _ => F5
    rename News _ _ _ _ => N5
    have hx4 : 4 ≤ (ns.take 8 ++ [67, 369, 84, 14]).length := by simp
    have hx12 : (ns.take 8 ++ [67, 369, 84, 14]).length ≤ 12 := by simp; omega
    generalize hxs : ns.take 8 ++ [67, 369, 84, 14] = xs at hW hx4 hx12
    obtain ⟨us, hperm, hpw⟩ := sorted_ex (triesL_nodup xs 0) (by have := (triesL_len xs 0).1; omega)
    refine ⟨X1.keeps F5.keep, ?_⟩
    k_dflt (refine run_ok (fw := new2) (us := us) K1 F5 X1 T1 rfl X1 T1 ?_ ?_ N5 (List.mem_append.mpr (.inr (List.mem_append.mpr (.inl hwl)))) (List.mem_append.mpr (.inl htl)) (fun p hp => List.mem_append.mpr (.inr (List.mem_append.mpr (.inl hp)))) hW hTh hx4 hx12 hz hperm hpw ?_)
    · ktr_room
    · ktr_units
    intro h6 tk6 r6 new6 F6 N6 D6
    obtain ⟨ra, rvs, rn, rfl, hra, hR⟩ := list_of D6
    clear D6
    repeat ((first | (with_reducible show wpAny _ _ _ _ _ _) | (with_reducible show ite _ _ _)); (fail_if_success (with_reducible show wpAny _ _ (exec (PySem.Stmt.While _ _ _ _) _) _ _ _)); (fail_if_success (with_reducible show wpAny _ _ (exec (PySem.Stmt.For _ _ _ _ _) _) _ _ _)); (fail_if_success (with_reducible show wpAny _ _ (pyIter _) _ _ _)); (fail_if_success (with_reducible show wpAny _ _ (subscriptTail _ _ _ _) _ _ _)); (fail_if_success (with_reducible show wpAny _ _ (call (Value.builtin "list.append") _) _ _ _)); (fail_if_success (with_reducible show wpAny _ _ (getMethod _ _ _) _ _ _)); (fail_if_success (with_reducible show wpAny _ _ (newList _) _ _ _)); (fail_if_success (with_reducible show wpAny _ _ (newTuple _) _ _ _)); (fail_if_success (with_reducible show wpAny _ _ (call (Value.ref _) _) _ _ _)); (fail_if_success (with_reducible show wpAny _ _ (exec (PySem.Stmt.Try _ _ _ _ _) _) _ _ _)); (fail_if_success (with_reducible show wpAny _ _ (compareOp _ _ _) _ _ _)); walk1; (try dsimp only))
    rename Fr _ _ _ _ => F7
    rename News _ _ _ _ => N7
    refine ⟨X1.keeps F7.keep, ?_⟩
    k_dflt (refine told_ok (fw := new2) (ft := []) K1 F7 X1 T1 rfl ?_ ?_ N7 (List.mem_append.mpr (.inr (List.mem_append.mpr (.inr (List.mem_append.mpr (.inl hwl)))))) (List.mem_append.mpr (.inr (List.mem_append.mpr (.inl htl)))) (fun p hp => List.mem_append.mpr (.inr (List.mem_append.mpr (.inr (List.mem_append.mpr (.inl hp)))))) hW hTh hx4 hx12 hz ?_)
    · ktr_room
    · ktr_units
    intro h8 tk8 r8 new8 us' F8 N8 hperm' hpw' D8
    obtain rfl : us' = us := sorted_uniq (hperm'.trans hperm.symm) hpw' hpw
    obtain ⟨ta, tvs2, tn2, rfl, hta, hTo⟩ := list_of D8
    clear D8
    repeat ((first | (with_reducible show wpAny _ _ _ _ _ _) | (with_reducible show ite _ _ _)); (fail_if_success (with_reducible show wpAny _ _ (exec (PySem.Stmt.While _ _ _ _) _) _ _ _)); (fail_if_success (with_reducible show wpAny _ _ (exec (PySem.Stmt.For _ _ _ _ _) _) _ _ _)); (fail_if_success (with_reducible show wpAny _ _ (pyIter _) _ _ _)); (fail_if_success (with_reducible show wpAny _ _ (subscriptTail _ _ _ _) _ _ _)); (fail_if_success (with_reducible show wpAny _ _ (call (Value.builtin "list.append") _) _ _ _)); (fail_if_success (with_reducible show wpAny _ _ (getMethod _ _ _) _ _ _)); (fail_if_success (with_reducible show wpAny _ _ (newList _) _ _ _)); (fail_if_success (with_reducible show wpAny _ _ (newTuple _) _ _ _)); (fail_if_success (with_reducible show wpAny _ _ (call (Value.ref _) _) _ _ _)); (fail_if_success (with_reducible show wpAny _ _ (exec (PySem.Stmt.Try _ _ _ _ _) _) _ _ _)); (fail_if_success (with_reducible show wpAny _ _ (compareOp _ _ _) _ _ _)); walk1; (try dsimp only))
    have hok : ∀ d ∈ walkLog zs us', kqdOk 8 d = true := log_ok fun t ht => triesL_ok (hperm.mem_iff.mp ht)
    k_dflt (refine kqd_eq N8 (List.mem_append.mpr (.inr (List.mem_append.mpr (.inl hra)))) rfl rfl hR (fun p hp => List.mem_append.mpr (.inr (List.mem_append.mpr (.inl hp)))) (List.mem_append.mpr (.inl hta)) rfl rfl hTo (fun p hp => List.mem_append.mpr (.inl hp)) hok hok ?_ ?_)
    · ktr_units
    (try simp only [eq_self, decide_true])
    repeat ((first | (with_reducible show wpAny _ _ _ _ _ _) | (with_reducible show ite _ _ _)); (fail_if_success (with_reducible show wpAny _ _ (exec (PySem.Stmt.While _ _ _ _) _) _ _ _)); (fail_if_success (with_reducible show wpAny _ _ (exec (PySem.Stmt.For _ _ _ _ _) _) _ _ _)); (fail_if_success (with_reducible show wpAny _ _ (pyIter _) _ _ _)); (fail_if_success (with_reducible show wpAny _ _ (subscriptTail _ _ _ _) _ _ _)); (fail_if_success (with_reducible show wpAny _ _ (call (Value.builtin "list.append") _) _ _ _)); (fail_if_success (with_reducible show wpAny _ _ (getMethod _ _ _) _ _ _)); (fail_if_success (with_reducible show wpAny _ _ (newList _) _ _ _)); (fail_if_success (with_reducible show wpAny _ _ (newTuple _) _ _ _)); (fail_if_success (with_reducible show wpAny _ _ (call (Value.ref _) _) _ _ _)); (fail_if_success (with_reducible show wpAny _ _ (exec (PySem.Stmt.Try _ _ _ _ _) _) _ _ _)); (fail_if_success (with_reducible show wpAny _ _ (compareOp _ _ _) _ _ _)); walk1; (try dsimp only))
    (try k_unfold)
    (try dsimp only)
    k_end; wrow_close)
end Mine
end PartS13
theorem PySem.Challenge.cw_oy0031_01_holds : PySem.Challenge.rw_oy0031_01.Holds := by
  exact Mine.top0
