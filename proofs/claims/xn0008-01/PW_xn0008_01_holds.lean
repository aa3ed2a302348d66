import PyProof.Rows.All
import Wide.All
import OpenK.AllK
import Wide.FinOn
import PySem.Challenge.RW_xn0008_01
open PySem PySem.W PyProof.Rows
set_option Elab.async false

section
open PySem PySem.W PyProof.Rows
set_option maxRecDepth 100000
set_option maxHeartbeats 8000000
namespace Mine
open_top hd for PySem.Challenge.rw_xn0008_01
end Mine
end

section
open PySem PySem.W PyProof.Rows
set_option maxRecDepth 100000
set_option maxHeartbeats 1000000
namespace Mine

/-- the tuple order on rows -/
def rlt : List Int → List Int → Bool
  | _, [] => false
  | [], _ :: _ => true
  | a :: as, b :: bs => if a = b then rlt as bs else decide (a < b)

abbrev Item := Int × List Int
/-- the tuple order on the heap's items -/
def ilt (a b : Item) : Bool := if a.1 = b.1 then (if a.2 = b.2 then false else rlt a.2 b.2) else decide (a.1 < b.1)

abbrev rowD (r : List Int) : Dat := .tuple (r.map Dat.int)
abbrev itemD (p : Item) : Dat := .tuple [.int p.1, rowD p.2]

section
variable {prog : Program} {w : World}

/-- pair by pair: what the tuple's order answers -/
inductive LtTo (prog : Program) (w : World) (A : Around) (s : Shared) : List Value → List Value → Bool → Prop
  | nn (xs : List Value) : LtTo prog w A s xs [] false
  | nc (y : Value) (ys : List Value) : LtTo prog w A s [] (y :: ys) true
  | eq {x y : Value} {xs ys : List Value} {b : Bool} : (∀ (E : Value → Shared → Prop) (Q : Bool → Shared → Prop), Q true s → wpAny (model prog w) A (eqBool x y) Q E s) → LtTo prog w A s xs ys b → LtTo prog w A s (x :: xs) (y :: ys) b
  | ne {x y : Value} {xs ys : List Value} {b : Bool} : (∀ (E : Value → Shared → Prop) (Q : Bool → Shared → Prop), Q false s → wpAny (model prog w) A (eqBool x y) Q E s) →
      (∀ (E : Value → Shared → Prop) (Q : Value → Shared → Prop), Q (.bool b) s → wpAny (model prog w) A (richCompare .Lt x y) Q E s) → LtTo prog w A s (x :: xs) (y :: ys) b

theorem tuple_lt_tree {A : Around} {E : Value → Shared → Prop} {s : Shared} {a b : Addr} {oa ob : Obj} {xs ys : Array Value} {na nb : Nat} {r : Bool} {P : PySem.Fin → Shared → Prop}
    (hoa : s.heap.get? a = some oa) (hda : oa.data = .seq xs na) (hob : s.heap.get? b = some ob) (hcb : ob.cls = .type "tuple") (hdb : ob.data = .seq ys nb)
    (hL : LtTo prog w A s xs.toList ys.toList r) (h : P (.done (.ret (.bool r))) s) :
    wpAny (model prog w) A (Builtin.«tuple.__lt__» ⟨[.ref a, .ref b], []⟩) P E s := by
  have hTb : s.TypeIs (.ref b) "tuple" := ⟨ob, hob, hcb⟩
  show wpAny _ _ (isInstance (.ref b) (.type "tuple") >>= _) _ _ s
  refine wpAny_bind (wpAny_isInstance hTb isSubtype_tuple_tuple ?_)
  simp only [Bool.not_true, Bool.false_eq_true, if_false]
  refine wpAny_bind (wpAny_tupleItemsOf hoa hda ?_)
  refine wpAny_bind (wpAny_tupleItemsOf hob hdb ?_)
  refine wpAny_bind ?_
  refine wpAny_forIn_list _
    (fun rest st s' => st.1 = none ∧ s' = s ∧ ∃ xs' ys', rest = List.zip xs' ys' ∧ LtTo prog w A s xs' ys' r ∧ (decide (xs'.length < ys'.length) = decide (xs.size < ys.size)))
    _ ?_ ?_ _ _ ⟨rfl, rfl, xs.toList, ys.toList, rfl, hL, by simp⟩
  · rintro ⟨u, v⟩ rest st s' ⟨hr, rfl, xs', ys', hz, hl, hlen⟩
    cases hl with
    | nn xs' => simp at hz
    | nc y ys' => simp at hz
    | @eq x y xs'' ys'' _ he hl' =>
      simp only [List.zip_cons_cons, List.cons.injEq, Prod.mk.injEq] at hz
      obtain ⟨⟨rfl, rfl⟩, rfl⟩ := hz
      refine wpAny_bind (he _ _ ?_)
      simp only [Bool.not_true, Bool.false_eq_true, if_false]
      refine wpAny_pure ⟨rfl, rfl, xs'', ys'', rfl, hl', by simpa using hlen⟩
    | @ne x y xs'' ys'' _ he hc =>
      simp only [List.zip_cons_cons, List.cons.injEq, Prod.mk.injEq] at hz
      obtain ⟨⟨rfl, rfl⟩, rfl⟩ := hz
      refine wpAny_bind (he _ _ ?_)
      simp only [Bool.not_false, if_true]
      refine wpAny_bind (wpAny_rule ?_)
      refine wpAny_bind (hc _ _ ?_)
      exact wpAny_bind (wpAny_pure (wpAny_pure (wpAny_pure h)))
  · rintro ⟨r1, r2⟩ s' ⟨hr, rfl, xs', ys', hz, hl, hlen⟩
    simp only at hr
    subst hr
    refine wpAny_pure ?_
    show P (.done (.ret (.bool (decide (xs.size < ys.size))))) s'
    have hfin : decide (xs.size < ys.size) = r := by
      rw [← hlen]
      cases hl with
      | nn xs' => simp
      | nc y ys' => simp
      | eq _ _ => simp at hz
      | ne _ _ => simp at hz
    rw [hfin]; exact h

theorem rich_lt_tuple {A : Around} {E : Value → Shared → Prop} {s : Shared} {a b : Addr} {oa ob : Obj} {xs ys : Array Value} {na nb : Nat} {r : Bool} {Q : Value → Shared → Prop} (hu : A.units < cLine)
    (hoa : s.heap.get? a = some oa) (hca : oa.cls = .type "tuple") (hda : oa.data = .seq xs na) (hob : s.heap.get? b = some ob) (hcb : ob.cls = .type "tuple") (hdb : ob.data = .seq ys nb)
    (hL : LtTo prog w A.in1 s xs.toList ys.toList r) (h : Q (.bool r) s) : wpAny (model prog w) A (richCompare .Lt (.ref a) (.ref b)) Q E s :=
  wpAny_richCompare_same_room (op := .Lt) (T := "tuple") ⟨oa, hoa, hca⟩ ⟨ob, hob, hcb⟩ PySem.F.slot_tuple_lt
    (wpAny_call_entry PySem.F.slot_tuple_lt ⟨oa, hoa, hca⟩ PySem.F.entry_tuple_lt (tuple_lt_tree hoa hda hob hcb hdb hL ⟨_, rfl, (fun e => nomatch e), h⟩) (PySem.F.args_tuple_lt_2 _ _)) hu

theorem row_vals {news : List (Addr × Obj)} : ∀ {vs : List Value} {r : List Int}, DatAll news vs (r.map Dat.int) → IntsAre vs r
  | _, [], h => by cases h; exact .nil
  | _, _ :: r, h => by
    cases h with
    | cons h1 h2 => cases h1; exact .cons _ _ (row_vals h2)
theorem ltTo_ints {A : Around} {s : Shared} : ∀ {xs ys : List Value} {a b : List Int}, IntsAre xs a → IntsAre ys b → LtTo prog w A s xs ys (rlt a b)
  | _, _, _, _, _, .nil => by unfold rlt; exact .nn _
  | _, _, _, _, .nil, .cons _ _ _ => by unfold rlt; exact .nc _ _
  | _, _, _, _, .cons i t h, .cons j u k => by
    unfold rlt
    by_cases e : i = j
    · subst e
      rw [if_pos rfl]
      exact .eq (fun E Q q => wpAny_eqBool_int (by simpa using q)) (ltTo_ints h k)
    · rw [if_neg e]
      refine .ne (fun E Q q => wpAny_eqBool_int ?_) fun E Q q => wpAny_lt_int q
      rw [beq_eq_false_iff_ne.mpr e]; exact q
theorem itemsAre_ints {vs : List Value} {r : List Int} (h : IntsAre vs r) : ItemsAre (intKind prog w) r vs := by
  induction h with
  | nil => exact .nil
  | cons i t _ ih => exact .cons (intKind_is prog w i t) ih

/-- a row's or an item's place in the ledger -/
theorem row_at {h₀ h : Heap} {L : Addr} {news L9 : List (Addr × Obj)} {v : Value} {r : List Int} (N : News h₀ L h news) (hs : ∀ p ∈ L9, p ∈ news) (hd : DatIn L9 v (rowD r)) :
    ∃ a vs n, v = .ref a ∧ h.get? a = some ⟨.type "tuple", none, .seq vs.toArray n, #[]⟩ ∧ IntsAre vs r := by
  cases hd with
  | @tuple a vs n _ hm hr => exact ⟨a, vs, n, rfl, (N _ (hs _ hm)).1, row_vals hr⟩

theorem lt_row {A : Around} {E : Value → Shared → Prop} {s : Shared} {h₀ : Heap} {L : Addr} {news L9 : List (Addr × Obj)} {v u : Value} {a b : List Int} {Q : Value → Shared → Prop} (N : News h₀ L s.heap news) (hs : ∀ p ∈ L9, p ∈ news)
    (hv : DatIn L9 v (rowD a)) (hu : DatIn L9 u (rowD b)) (hc : A.units < cLine) (h : Q (.bool (rlt a b)) s) : wpAny (model prog w) A (richCompare .Lt v u) Q E s := by
  obtain ⟨x, xs, n, rfl, hx, ix⟩ := row_at N hs hv
  obtain ⟨y, ys, k, rfl, hy, iy⟩ := row_at N hs hu
  exact rich_lt_tuple hc hx rfl rfl hy rfl rfl (by simpa using ltTo_ints ix iy) h
theorem eq_row {A : Around} {E : Value → Shared → Prop} {s : Shared} {h₀ : Heap} {L : Addr} {news L9 : List (Addr × Obj)} {v u : Value} {a b : List Int} {Q : Bool → Shared → Prop} (N : News h₀ L s.heap news) (hs : ∀ p ∈ L9, p ∈ news)
    (hv : DatIn L9 v (rowD a)) (hu : DatIn L9 u (rowD b)) (hc : A.units < cLine) (h : Q (decide (a = b)) s) : wpAny (model prog w) A (eqBool v u) Q E s := by
  obtain ⟨x, xs, n, rfl, hx, ix⟩ := row_at N hs hv
  obtain ⟨y, ys, k, rfl, hy, iy⟩ := row_at N hs hu
  exact wpAny_eqBool_tuple (knd := intKind prog w) hc ⟨_, _, _, hx, rfl, rfl, itemsAre_ints (by simpa using ix)⟩ ⟨_, _, _, hy, rfl, rfl, itemsAre_ints (by simpa using iy)⟩ h

theorem lt_item {A : Around} {E : Value → Shared → Prop} {s : Shared} {h₀ : Heap} {L : Addr} {news L9 : List (Addr × Obj)} {v u : Value} {a b : Item} {Q : Value → Shared → Prop} (N : News h₀ L s.heap news) (hs : ∀ p ∈ L9, p ∈ news)
    (hv : DatIn L9 v (itemD a)) (hu : DatIn L9 u (itemD b)) (hc : A.units + 8 < cLine) (h : Q (.bool (ilt a b)) s) : wpAny (model prog w) A (richCompare .Lt v u) Q E s := by
  obtain ⟨a1, a2⟩ := a
  obtain ⟨b1, b2⟩ := b
  cases hv with
  | @tuple x xs n _ hx hxr =>
    cases hu with
    | @tuple y ys k _ hy hyr =>
      cases hxr with
      | @cons v1 _ _ _ hx1 hxr =>
        cases hxr with
        | @cons v2 _ _ _ hx2 hxr =>
          cases hxr
          cases hyr with
          | @cons u1 _ _ _ hy1 hyr =>
            cases hyr with
            | @cons u2 _ _ _ hy2 hyr =>
              cases hyr
              cases hx1 with
              | int _ t =>
                cases hy1 with
                | int _ t' =>
                  refine rich_lt_tuple (r := ilt (a1, a2) (b1, b2)) (by omega) (N _ (hs _ hx)).1 rfl rfl (N _ (hs _ hy)).1 rfl rfl ?_ h
                  show LtTo prog w A.in1 s [Value.int a1 t, v2] [Value.int b1 t', u2] (ilt (a1, a2) (b1, b2))
                  have hc1 : A.in1.units < cLine := by show A.units + 1 < cLine; omega
                  unfold ilt
                  by_cases e : a1 = b1
                  · subst e
                    refine .eq (fun E Q q => wpAny_eqBool_int (by simpa using q)) ?_
                    simp only [if_true]
                    by_cases e2 : a2 = b2
                    · subst e2
                      simp only [if_true]
                      exact .eq (fun E Q q => eq_row N hs hx2 hy2 hc1 (by simpa using q)) (.nn _)
                    · rw [if_neg e2]
                      exact .ne (fun E Q q => eq_row N hs hx2 hy2 hc1 (by rw [decide_eq_false e2]; exact q)) fun E Q q => lt_row N hs hx2 hy2 hc1 q
                  · simp only [if_neg e]
                    refine .ne (fun E Q q => wpAny_eqBool_int ?_) fun E Q q => wpAny_lt_int q
                    rw [beq_eq_false_iff_ne.mpr e]; exact q
end
end Mine
end

section
open PySem PySem.W PyProof.Rows
set_option maxRecDepth 100000
set_option maxHeartbeats 1000000
namespace Mine
section
variable {prog : Program} {w : World} {A : Around} {E : Value → Shared → Prop} {s : Shared} {h₀ : Heap} {L H : Addr} {m : Str → Option Value} {news news' L9 : List (Addr × Obj)} {vs : List Value} {n : Nat}

theorem set_all {α : Type} {f : α → Dat} : ∀ {vs : List Value} {l : List α}, DatAll L9 vs (l.map f) → ∀ {v : Value} {x : α}, DatIn L9 v (f x) → ∀ k : Nat, DatAll L9 (vs.set k v) ((l.set k x).map f)
  | _, [], h, _, _, _, _ => by cases h; exact .nil
  | _, _ :: _, h, _, _, hx, 0 => by
    cases h with
    | cons h1 h2 => exact .cons hx h2
  | _, _ :: _, h, _, _, hx, k + 1 => by
    cases h with
    | cons h1 h2 => exact .cons h1 (set_all h2 hx k)
theorem ref_of {v : Value} {ds : List Dat} (h : DatIn L9 v (.tuple ds)) : ∃ a, v = .ref a := by
  cases h with
  | tuple => exact ⟨_, rfl⟩

/-- an item of a list of tuples at a place -/
theorem my_get {α : Type} {f : α → List Dat} {l : List α} {k : Int} {u : Tok} {Q : Value → Shared → Prop} (N : News h₀ L s.heap news) (hm : (H, listOf vs.toArray n) ∈ news) (hd : DatAll L9 vs (l.map fun x => .tuple (f x)))
    (h0 : 0 ≤ k) (h1 : k < (l.length : Int)) (hfit : (l.length : Int) < 2 ^ 63) (h : ∀ a x, l[k.toNat]? = some x → DatIn L9 (.ref a) (.tuple (f x)) → Q (.ref a) s) : wpAny (model prog w) A (getItem (.ref H) (.int k u)) Q E s := by
  have hk : k.toNat < l.length := by omega
  have hk' : k.toNat < (l.map fun x => Dat.tuple (f x)).length := by simpa using hk
  obtain ⟨v, hv, hD⟩ := hd.get hk'
  have hl : s.heap.IsList H vs.toArray := ⟨_, (N _ hm).1, rfl, n, rfl⟩
  rw [List.getElem_map] at hD
  obtain ⟨a, rfl⟩ := ref_of hD
  exact wpAny_getItem_list hl h0 (by omega) (by simpa using hv) (h a _ (List.getElem?_eq_getElem hk) hD)
theorem my_sub {α : Type} {f : α → List Dat} {value slice : PySem.Expr} {l : List α} {k : Int} {u : Tok} {Q : Value → Shared → Prop} (N : News h₀ L s.heap news) (hm : (H, listOf vs.toArray n) ∈ news) (hd : DatAll L9 vs (l.map fun x => .tuple (f x)))
    (h0 : 0 ≤ k) (h1 : k < (l.length : Int)) (hfit : (l.length : Int) < 2 ^ 63) (h : ∀ a x, l[k.toNat]? = some x → DatIn L9 (.ref a) (.tuple (f x)) → Q (.ref a) s)
    (hs : subscripted slice false (.ref H) (.int k u) = operate [.ref H, .int k u] (getItem (.ref H) (.int k u)) := by with_unfolding_all rfl) :
    wpAny (model prog w) A (subscriptTail value slice (.ref H) (.int k u)) Q E s := by
  have hl : s.heap.IsList H vs.toArray := ⟨_, (N _ hm).1, rfl, n, rfl⟩
  exact tail_any hl.typeIs slot_list_getitem.lookup (my_get N hm hd h0 h1 hfit h) hs
/-- a store into a list of tuples -/
theorem my_set {α : Type} {f : α → Dat} {l : List α} {k : Int} {t : Tok} {v : Value} {x : α} {Q : Unit → Shared → Prop} (F : Fr h₀ L s.heap m) (N : News h₀ L s.heap news) (U : Upd H (listOf vs.toArray n) (listOf (vs.set k.toNat v).toArray n) news news')
    (hd : DatAll L9 vs (l.map f)) (hx : DatIn L9 v (f x)) (h0 : 0 ≤ k) (h1 : k < (l.length : Int)) (hfit : (l.length : Int) < 2 ^ 63)
    (h : ∀ h', Fr h₀ L h' m → News h₀ L h' news' → DatAll L9 (vs.set k.toNat v) ((l.set k.toNat x).map f) → Q () { s with heap := h' }) :
    wpAny (model prog w) A (setItem (.ref H) (.int k t) v) Q E s := by
  obtain ⟨pre, post, rfl, rfl, a, b⟩ := U.split
  have z := N (H, listOf vs.toArray n) (List.mem_append.mpr (.inr (.head _)))
  have hl : vs.length = l.length := by simpa using hd.length
  have hs : vs.toArray.size = l.length := by rw [List.size_toArray]; exact hl
  refine ki_setAt z.1 h0 (by omega) (by omega) (h _ (F.change (Heap.SameBut.update ..) z.2.1 z.2.2) (ki_turn _ N a b ?_ ?_) (set_all hd hx _))
  · show vs.toArray.setIfInBounds k.toNat v = (vs.set k.toNat v).toArray
    apply Array.toList_inj.mp
    simp
  · simp
theorem my_lt {v u : Value} {a b : Item} {Q : Value → Shared → Prop} (N : News h₀ L s.heap news) (hs : ∀ p ∈ L9, p ∈ news)
    (hv : DatIn L9 v (itemD a)) (hu : DatIn L9 u (itemD b)) (hc : A.units + 8 < cLine) (h : Q (.bool (ilt a b)) s) : wpAny (model prog w) A (compareOp .Lt v u) Q E s := lt_item N hs hv hu hc h
theorem my_ltR {v u : Value} {a b : List Int} {Q : Value → Shared → Prop} (N : News h₀ L s.heap news) (hs : ∀ p ∈ L9, p ∈ news)
    (hv : DatIn L9 v (rowD a)) (hu : DatIn L9 u (rowD b)) (hc : A.units < cLine) (h : Q (.bool (rlt a b)) s) : wpAny (model prog w) A (compareOp .Lt v u) Q E s := lt_row N hs hv hu hc h
end

/-! the plain functions -/
def noI : Item := (0, [])
def sd : Nat → Item → List Item → Nat → List Item
  | 0, x, a, pos => a.set pos x
  | f + 1, x, a, pos => if pos = 0 then a.set pos x else
      if ilt x (a.getD ((pos - 1) / 2) noI) then sd f x (a.set pos (a.getD ((pos - 1) / 2) noI)) ((pos - 1) / 2) else a.set pos x
def siftdown (a : List Item) (pos : Nat) : List Item := sd pos (a.getD pos noI) a pos
theorem sd_length : ∀ (f : Nat) (x : Item) (a : List Item) (pos : Nat), (sd f x a pos).length = a.length
  | 0, _, _, _ => by unfold sd; simp
  | f + 1, x, a, pos => by
    unfold sd
    split
    · simp
    · split
      · rw [sd_length f]; simp
      · simp
end Mine
end

section
open PySem PySem.W PyProof.Rows
set_option maxRecDepth 100000
set_option maxHeartbeats 1000000
namespace Mine
theorem kst_id {u : Str → Option Value} {l : List (Str × Value)} (h : ∀ p ∈ l, u p.1 = some p.2) : kstB u l = u := by
  funext y
  exact kstB_eq h fun _ => rfl
theorem fr_kst {h₀ h : Heap} {L : Addr} {u : Str → Option Value} {l : List (Str × Value)} (k : ∀ p ∈ l, u p.1 = some p.2) (F : Fr h₀ L h u) : Fr h₀ L h (kstB u l) := by rw [kst_id k]; exact F

def MyEnd {σ : Type} (h₀ : Heap) (L : Addr) (s : Shared) (Led : σ → List (Addr × Obj)) (ps : σ → List (Str × Value)) (P : σ → Prop) (μ : σ → Nat) (c : σ) (s₂ : Shared) : Prop :=
  ∃ (c' : σ) (h' : Heap) (tk : Nat) (m' : Str → Option Value), s₂ = { s with heap := h', toks := tk } ∧ Fr h₀ L h' m' ∧ News h₀ L h' (Led c') ∧ (∀ p ∈ ps c', m' p.1 = some p.2) ∧ P c' ∧ μ c' < μ c
def MyPost {σ : Type} (h₀ : Heap) (L : Addr) (s : Shared) (Led : σ → List (Addr × Obj)) (ps : σ → List (Str × Value)) (P : σ → Prop) (μ : σ → Nat) (Q : Flow → Shared → Prop) (c : σ) (f : Flow) (s₂ : Shared) : Prop :=
  match f with
  | .ret v => Q (.ret v) s₂
  | .brk => Q .next s₂
  | _ => MyEnd h₀ L s Led ps P μ c s₂
theorem my_end {σ : Type} {h₀ : Heap} {L : Addr} {s : Shared} {Led : σ → List (Addr × Obj)} {ps : σ → List (Str × Value)} {P : σ → Prop} {μ : σ → Nat} {c : σ} {h' : Heap} {tk : Nat} {m' : Str → Option Value} (c' : σ)
    (F : Fr h₀ L h' m') (N : News h₀ L h' (Led c')) (hk : ∀ p ∈ ps c', m' p.1 = some p.2) (hp : P c') (hm : μ c' < μ c) : MyEnd h₀ L s Led ps P μ c { s with heap := h', toks := tk } := ⟨c', h', tk, m', rfl, F, N, hk, hp, hm⟩
section
variable {prog : Program} {w : World} {A : Around} {E : Value → Shared → Prop} {Q : Flow → Shared → Prop} {s : Shared} {env : Env} {h₀ : Heap} {L : Addr}
theorem my_while {σ : Type} {test : PySem.Expr} {body : List Stmt} {pos : Pos} {m₀ : Str → Option Value} {news : List (Addr × Obj)} (Led : σ → List (Addr × Obj)) (ps : σ → List (Str × Value)) (P : σ → Prop) (μ : σ → Nat) (c₀ : σ)
    (F : Fr h₀ L s.heap m₀) (N : News h₀ L s.heap news) (hn : ∀ p ∈ Led c₀, p ∈ news) (hk : ∀ p ∈ ps c₀, m₀ p.1 = some p.2) (hp : P c₀) (hE : PassesOwn (model prog w) A env E)
    (turn : ∀ (c : σ) (u : Str → Option Value) h tk, P c → Fr h₀ L h (kstB u (ps c)) → News h₀ L h (Led c) →
      wpAny (model prog w) A (isTrue test env (eval test env)) (fun b s₂ =>
        if b = true then wpAny (model prog w) A (execs body env) (MyPost h₀ L s Led ps P μ Q c) E s₂ else Q .next s₂) E { s with heap := h, toks := tk }) :
    wpAny (model prog w) A (exec (.While test body [] pos) env) Q E s := by
  refine While_inv2 (fun n m nx => ∃ c : σ, nx = Led c ∧ μ c = n ∧ (∀ p ∈ ps c, m p.1 = some p.2) ∧ P c) F (fun p h => N p (hn p h)) ⟨c₀, rfl, rfl, hk, hp⟩ ?_ hE
  rintro n m₁ nx h tk F₁ N₁ ⟨c, hnx, hsz, h1, hp'⟩
  rw [hnx] at N₁
  rw [← hsz]
  refine wpAny_mono (turn c m₁ h tk hp' (fr_kst h1 F₁) N₁) (fun b s₂ p => ?_) fun _ _ x => x
  cases b with
  | false => simpa using p
  | true =>
    simp only [if_true] at p ⊢
    refine wpAny_mono p (fun f s₃ q => ?_) fun _ _ x => x
    cases f with
    | ret v => exact q
    | brk => exact q
    | next =>
      obtain ⟨c', h', tk', m', rfl, F', N', hk9, hp9, hm9⟩ := q
      exact ⟨h', tk', m', Led c', μ c', rfl, F', N', hm9, c', rfl, rfl, hk9, hp9⟩
    | cont =>
      obtain ⟨c', h', tk', m', rfl, F', N', hk9, hp9, hm9⟩ := q
      exact ⟨h', tk', m', Led c', μ c', rfl, F', N', hm9, c', rfl, rfl, hk9, hp9⟩
end
theorem sd_zero (f : Nat) (x : Item) (l : List Item) : sd f x l 0 = l.set 0 x := by
  cases f <;> simp [sd]
theorem sd_stop {f p : Nat} {x y : Item} {l : List Item} (hp : 0 < p) (hf : p ≤ f) (hy : l[(p - 1) / 2]? = some y) (h : ilt x y = false) : sd f x l p = l.set p x := by
  obtain ⟨g, rfl⟩ : ∃ g, f = g + 1 := ⟨f - 1, by omega⟩
  unfold sd
  rw [if_neg (by omega), List.getD_eq_getElem?_getD, hy]
  simp only [Option.getD_some, h, Bool.false_eq_true, if_false]
theorem sd_go {f p : Nat} {x y : Item} {l : List Item} (hp : 0 < p) (hf : p ≤ f) (hy : l[(p - 1) / 2]? = some y) (h : ilt x y = true) : ∃ g, (p - 1) / 2 ≤ g ∧ sd f x l p = sd g x (l.set p y) ((p - 1) / 2) := by
  obtain ⟨g, rfl⟩ : ∃ g, f = g + 1 := ⟨f - 1, by omega⟩
  refine ⟨g, by omega, ?_⟩
  conv => lhs; unfold sd
  rw [if_neg (by omega), List.getD_eq_getElem?_getD, hy]
  simp only [Option.getD_some, h, if_true]
theorem getD_some' {l : List Item} {k : Nat} {x : Item} (h : l[k]? = some x) : l.getD k noI = x := by
  rw [List.getD_eq_getElem?_getD, h]; rfl
structure Hold (P : Prop) : Prop where
  h : P
theorem shr_one (k : Nat) (h : 0 < k) : ((k : Int) - 1).fdiv (2 ^ Int.toNat 1) = (((k - 1) / 2 : Nat) : Int) := by
  have e : (2 : Int) ^ Int.toNat 1 = 2 := rfl
  rw [e, Int.fdiv_eq_ediv_of_nonneg _ (by omega)]
  omega
theorem my_shr {prog : Program} {w : World} {A : Around} {E : Value → Shared → Prop} {s : Shared} {k : Nat} {t u : Tok} {Q : Value → Shared → Prop} (hk : 0 < k) (h : Q (.int (((k - 1) / 2 : Nat) : Int) s.toks) { s with toks := s.toks + 1 }) :
    wpAny (model prog w) A (binaryOp .RShift (.int ((k : Int) - 1) t) (.int 1 u)) Q E s :=
  rshift_int (by decide) (by rw [shr_one k hk]; exact h)

theorem my_len {prog : Program} {w : World} {A : Around} {E : Value → Shared → Prop} {s : Shared} {h₀ : Heap} {L H : Addr} {news L9 : List (Addr × Obj)} {us : List Value} {α : Type} {f : α → Dat} {l : List α} {n : Nat} {Q : Value → Shared → Prop} (N : News h₀ L s.heap news) (hm : (H, listOf us.toArray n) ∈ news) (hd : DatAll L9 us (l.map f)) (hfit : (l.length : Int) < 2 ^ 63)
    (h : Q (.int (l.length : Int) (s.toks + 1)) { s with toks := s.toks + 1 + 1 }) : wpAny (model prog w) A (call (.builtin "len") [.ref H]) Q E s :=
  kd_len N hm hd (by simpa using hfit) (by simpa using h)

def pick (a : List Item) (c : Nat) : Nat := if c + 1 < a.length then (if ilt (a.getD c noI) (a.getD (c + 1) noI) = false then c + 1 else c) else c
def su : Nat → Item → List Item → Nat → List Item
  | 0, x, a, pos => sd pos x (a.set pos x) pos
  | f + 1, x, a, pos => if 2 * pos + 1 < a.length then su f x (a.set pos (a.getD (pick a (2 * pos + 1)) noI)) (pick a (2 * pos + 1)) else sd pos x (a.set pos x) pos
def siftup (a : List Item) : List Item := su a.length (a.getD 0 noI) a 0
theorem su_length : ∀ (f : Nat) (x : Item) (a : List Item) (pos : Nat), (su f x a pos).length = a.length
  | 0, _, _, _ => by unfold su; rw [sd_length]; simp
  | f + 1, x, a, pos => by
    unfold su
    split
    · rw [su_length f]; simp
    · rw [sd_length]; simp
theorem pick_lt {a : List Item} {c : Nat} (h : c < a.length) : pick a c < a.length ∧ c ≤ pick a c := by
  unfold pick
  split
  · split
    · omega
    · omega
  · omega
theorem su_stop {f p : Nat} {x : Item} {l : List Item} (h : ¬ 2 * p + 1 < l.length) : su f x l p = sd p x (l.set p x) p := by
  cases f <;> simp [su, h]
theorem su_go {f p c : Nat} {x y : Item} {l : List Item} (hp : 2 * p + 1 < l.length) (hf : l.length ≤ f + p) (hc : pick l (2 * p + 1) = c) (hy : l[c]? = some y) : ∃ g, l.length ≤ g + c ∧ su f x l p = su g x (l.set p y) c := by
  obtain ⟨g, rfl⟩ : ∃ g, f = g + 1 := ⟨f - 1, by omega⟩
  have := (pick_lt hp).2
  refine ⟨g, by omega, ?_⟩
  conv => lhs; unfold su
  rw [if_pos hp, hc, getD_some' hy]
theorem pick_right {l : List Item} {c : Nat} {x y : Item} (h : c + 1 < l.length) (hx : l[c]? = some x) (hy : l[c + 1]? = some y) (hl : ilt x y = false) : pick l c = c + 1 := by
  unfold pick
  rw [if_pos h, getD_some' hx, getD_some' hy, if_pos hl]
theorem pick_left {l : List Item} {c : Nat} {x y : Item} (h : c + 1 < l.length) (hx : l[c]? = some x) (hy : l[c + 1]? = some y) (hl : ilt x y = true) : pick l c = c := by
  unfold pick
  rw [if_pos h, getD_some' hx, getD_some' hy, if_neg (by simp [hl])]
theorem pick_end {l : List Item} {c : Nat} (h : ¬ c + 1 < l.length) : pick l c = c := by
  unfold pick
  rw [if_neg h]
end Mine
end

section
open PySem PySem.W PyProof.Rows
set_option maxRecDepth 100000
set_option maxHeartbeats 1000000
namespace Mine
section
variable {prog : Program} {w : World} {A : Around} {E : Value → Shared → Prop} {s : Shared} {h₀ : Heap} {L H : Addr} {m : Str → Option Value} {news news' L9 : List (Addr × Obj)} {vs : List Value} {n : Nat}
theorem my_append {α : Type} {f : α → Dat} {l : List α} {v : Value} {x : α} {Q : Value → Shared → Prop} (F : Fr h₀ L s.heap m) (N : News h₀ L s.heap news) (U : Upd H (listOf vs.toArray n) (listOf (vs ++ [v]).toArray (n + 1)) news news')
    (hd : DatAll L9 vs (l.map f)) (hx : DatIn L9 v (f x)) (hz : l.length ≤ 100000)
    (h : ∀ h', Fr h₀ L h' m → News h₀ L h' news' → DatAll L9 (vs ++ [v]) ((l ++ [x]).map f) → Q .none { s with heap := h' }) : wpAny (model prog w) A (call (.builtin "list.append") [.ref H, v]) Q E s := by
  have hl : vs.length = l.length := by simpa using hd.length
  have e : vs.toArray.push v = (vs ++ [v]).toArray := by simp
  refine append_K F N (by rw [e]; exact U) (fun h' F' N' => h h' F' N' ?_) (by rw [List.size_toArray, PySem.sizeLine_eq]; omega)
  rw [List.map_append]
  exact hd.append (.one hx)
theorem all_dropLast {α : Type} {f : α → Dat} : ∀ {vs : List Value} {l : List α}, DatAll L9 vs (l.map f) → l ≠ [] → ∃ v x, vs = vs.dropLast ++ [v] ∧ l.getLast? = some x ∧ DatIn L9 v (f x) ∧ DatAll L9 vs.dropLast (l.dropLast.map f)
  | _, [], _, h => absurd rfl h
  | _, [x], h, _ => by
    cases h with
    | cons h1 h2 => cases h2; exact ⟨_, x, rfl, rfl, h1, .nil⟩
  | _, x :: y :: l, h, _ => by
    cases h with
    | cons h1 h2 =>
      obtain ⟨v, z, e1, e2, e3, e4⟩ := all_dropLast (l := y :: l) h2 (by simp)
      cases h2 with
      | cons h3 h4 =>
        refine ⟨v, z, ?_, ?_, e3, ?_⟩
        · simp only [List.dropLast_cons_cons, List.cons_append, List.cons.injEq, true_and]
          exact e1
        · simpa using e2
        · simp only [List.dropLast_cons_cons, List.map_cons]
          exact .cons h1 (by simpa using e4)
theorem my_pop {α : Type} {f : α → List Dat} {l : List α} {Q : Value → Shared → Prop} (F : Fr h₀ L s.heap m) (N : News h₀ L s.heap news) (U : Upd H (listOf vs.toArray n) (listOf vs.dropLast.toArray (n + 1)) news news')
    (hd : DatAll L9 vs (l.map fun x => .tuple (f x))) (hne : l ≠ []) (hz : l.length ≤ 100000)
    (h : ∀ h' a x, Fr h₀ L h' m → News h₀ L h' news' → l.getLast? = some x → DatIn L9 (.ref a) (.tuple (f x)) → DatAll L9 vs.dropLast (l.dropLast.map fun x => .tuple (f x)) → Q (.ref a) { s with heap := h' }) : wpAny (model prog w) A (call (.builtin "list.pop") [.ref H]) Q E s := by
  obtain ⟨v, x, e1, e2, e3, e4⟩ := all_dropLast hd hne
  have hl : vs.length = l.length := by simpa using hd.length
  obtain ⟨a, rfl⟩ := ref_of e3
  refine kl_pop F N (p := vs.dropLast) (y := .ref a) ?_ U (by show vs.length ≤ _; rw [PySem.sizeLine_eq]; omega) fun h' F' N' => h h' a x F' N' e2 e3 e4
  have e := kpa_last (.ref a) vs.dropLast
  rw [← e1] at e
  simpa using e
theorem my_truthy {α : Type} {f : α → Dat} {l : List α} {Q : Bool → Shared → Prop} (N : News h₀ L s.heap news) (hm : (H, listOf vs.toArray n) ∈ news) (hd : DatAll L9 vs (l.map f)) (hz : l.length ≤ 100000)
    (h : Q (decide (0 < l.length)) { s with toks := s.toks + 1 + 1 }) : wpAny (model prog w) A (truthy (.ref H)) Q E s := by
  have hl : vs.length = l.length := by simpa using hd.length
  have e : (!vs.toArray.isEmpty) = decide (0 < l.length) := by
    rw [List.isEmpty_toArray]
    cases vs <;> cases l <;> simp_all
  exact wpAny_truthy_list ⟨_, (N _ hm).1, rfl, n, rfl⟩ (by rw [List.size_toArray]; omega) (by rw [e]; exact h)
theorem my_dec {α : Type} {l : List α} {x : α} {t u : Tok} {Q : Value → Shared → Prop} (h : Q (.int (l.length : Int) s.toks) { s with toks := s.toks + 1 }) :
    wpAny (model prog w) A (binaryOp .Sub (.int (((l ++ [x]).length : Nat) : Int) t) (.int 1 u)) Q E s := by
  have e : (((l ++ [x]).length : Nat) : Int) - 1 = (l.length : Int) := by simp
  exact sub_int (by rw [e]; exact h)
end
def push (a : List Item) (x : Item) : List Item := siftdown (a ++ [x]) a.length
def pop (a : List Item) : Item × List Item := if a.dropLast.length = 0 then (a.getLastD noI, []) else (a.dropLast.getD 0 noI, siftup (a.dropLast.set 0 (a.getLastD noI)))
theorem pop_two {a : List Item} {x y : Item} (h : 0 < a.dropLast.length) (hx : a.getLast? = some x) (hy : a.dropLast[0]? = some y) : pop a = (y, siftup (a.dropLast.set 0 x)) := by
  unfold pop
  rw [if_neg (by omega), getD_some' hy, List.getLastD_eq_getLast?, hx]; rfl
theorem pop_one {a : List Item} {x : Item} (h : ¬ 0 < a.dropLast.length) (hx : a.getLast? = some x) : pop a = (x, []) ∧ a.dropLast = [] := by
  unfold pop
  rw [if_pos (by omega), List.getLastD_eq_getLast?, hx]
  exact ⟨rfl, List.eq_nil_of_length_eq_zero (by omega)⟩
theorem siftdown_length (a : List Item) (p : Nat) : (siftdown a p).length = a.length := sd_length _ _ _ _
theorem siftup_length (a : List Item) : (siftup a).length = a.length := su_length _ _ _ _
end Mine
end

section
open PySem PySem.W PyProof.Rows
set_option maxRecDepth 100000
set_option maxHeartbeats 1000000
namespace Mine
abbrev tupO (vs : List Value) : Obj := { cls := .type "tuple", data := .seq vs.toArray }
theorem row_all {L9 : List (Addr × Obj)} {vs : List Value} {r : List Int} (h : IntsAre vs r) : DatAll L9 vs (r.map Dat.int) := by
  induction h with
  | nil => exact .nil
  | cons i t _ ih => exact .cons (.int i t) ih
theorem item_open {L9 : List (Addr × Obj)} {a : Addr} {it : Item} (h : DatIn L9 (.ref a) (itemD it)) :
    ∃ t b n, (a, ({ cls := .type "tuple", data := .seq [.int it.1 t, .ref b].toArray n } : Obj)) ∈ L9 ∧ DatIn L9 (.ref b) (rowD it.2) := by
  cases h with
  | @tuple _ vs n _ hm hr =>
    cases hr with
    | cons h1 h2 =>
      cases h2 with
      | cons h3 h4 =>
        cases h4
        cases h1 with
        | int _ t =>
          obtain ⟨b, rfl⟩ := ref_of h3
          exact ⟨t, b, n, hm, h3⟩
section
variable {prog : Program} {w : World} {A : Around} {E : Value → Shared → Prop} {s : Shared} {h₀ : Heap} {L H : Addr} {m : Str → Option Value} {news news' L9 : List (Addr × Obj)} {vs : List Value} {n : Nat}
theorem my_tadd {b q : Addr} {r : List Int} {k : Int} {t : Tok} {Q : Value → Shared → Prop} (F : Fr h₀ L s.heap m) (N : News h₀ L s.heap ((q, tupO [.int k t]) :: news)) (hq : AllLt q news)
    (hs : ∀ p ∈ L9, p ∈ (q, tupO [.int k t]) :: news) (hb : DatIn L9 (.ref b) (rowD r)) (hz : r.length ≤ 1000)
    (h : ∀ y vs' h', Fr h₀ L h' m → News h₀ L h' ((y, tupO vs') :: news) → (∀ p ∈ news, p.1 < y) → IntsAre vs' (r ++ [k]) → Q (.ref y) { s with heap := h' }) : wpAny (model prog w) A (binaryOp .Add (.ref b) (.ref q)) Q E s := by
  obtain ⟨a, us, j, e, ho, hi⟩ := row_at N hs hb
  cases e
  have hl : us.length = r.length := hi.length
  have hn : ∀ p ∈ news, p.1 < q := tb_ltOf hq
  have N0 : News h₀ L s.heap news := fun p hp => N p (.tail _ hp)
  refine add_tuples F N ⟨_, ho, rfl, j, rfl⟩ ⟨_, (N _ (.head _)).1, rfl, 0, rfl⟩ (fun e => ?_) (fun _ e => nomatch e) (fun _ _ h' F' N' => ?_) (by rw [PySem.sizeLine_eq]; simp; omega)
  · subst e
    have er : r = [] := by cases hi; rfl
    subst er
    exact h q [.int k t] _ F N hn (.cons k t .nil)
  · exact h _ _ h' F' (fun p hp => by
      rcases List.mem_cons.mp hp with rfl | hp
      · exact N' _ (.head _)
      · exact N' _ (.tail _ (.tail _ hp))) (fun p hp => Heap.lt_size (N0 p hp).1) (hi.append (.cons k t .nil))
theorem my_ne_nil {α : Type} {f : α → Dat} {l : List α} {e : Addr} {k : Nat} {Q : Value → Shared → Prop} (N : News h₀ L s.heap news) (hm : (H, listOf vs.toArray n) ∈ news) (hd : DatAll L9 vs (l.map f)) (hs : ∀ p ∈ L9, p ∈ news) (hf : ∀ x, kqdOk 8 (f x) = true)
    (he : (e, listOf (List.toArray []) k) ∈ news) (hu : A.units + 64 < cLine) (h : Q (.bool (decide (0 < l.length))) s) : wpAny (model prog w) A (compareOp .NotEq (.ref H) (.ref e)) Q E s := by
  refine kqd_ne (n₂ := news) N hm rfl rfl hd hs he rfl rfl .nil (fun _ h => h) (fun d hd => ?_) (fun _ h => nomatch h) hu ?_
  · obtain ⟨x, _, rfl⟩ := List.mem_map.mp hd
    exact hf x
  · have e : ∀ d : Decidable (List.map f l = []), (!@decide (List.map f l = []) d) = decide (0 < l.length) := by
      intro d
      cases l with
      | nil => rw [decide_eq_true (by rfl)]; rfl
      | cons x l => rw [decide_eq_false (by simp)]; simp
    rw [e]; exact h
theorem item_ok (x : Item) : kqdOk 8 (itemD x) = true := by
  simp [kqdOk]
theorem row_ok (x : List Int) : kqdOk 8 (rowD x) = true := by
  simp [kqdOk]
end
theorem all_set' {P : Item → Prop} {a : List Item} {i : Nat} {x : Item} (hx : P x) (h : ∀ y ∈ a, P y) : ∀ y ∈ a.set i x, P y := fun y hy => (List.mem_or_eq_of_mem_set hy).elim (h y) fun e => e ▸ hx
theorem all_getD {P : Item → Prop} {a : List Item} {i : Nat} (h0 : P noI) (h : ∀ y ∈ a, P y) : P (a.getD i noI) := by
  rw [List.getD_eq_getElem?_getD]
  cases e : a[i]? with
  | none => exact h0
  | some y => exact h y (List.mem_of_getElem? e)
theorem sd_all {P : Item → Prop} (h0 : P noI) : ∀ (f : Nat) (x : Item) (a : List Item) (pos : Nat), P x → (∀ y ∈ a, P y) → ∀ y ∈ sd f x a pos, P y
  | 0, x, a, pos, hx, h => by unfold sd; exact all_set' hx h
  | f + 1, x, a, pos, hx, h => by
    unfold sd
    split
    · exact all_set' hx h
    · split
      · exact sd_all h0 f x _ _ hx (all_set' (all_getD h0 h) h)
      · exact all_set' hx h
theorem su_all {P : Item → Prop} (h0 : P noI) : ∀ (f : Nat) (x : Item) (a : List Item) (pos : Nat), P x → (∀ y ∈ a, P y) → ∀ y ∈ su f x a pos, P y
  | 0, x, a, pos, hx, h => by unfold su; exact sd_all h0 _ _ _ _ hx (all_set' hx h)
  | f + 1, x, a, pos, hx, h => by
    unfold su
    split
    · exact su_all h0 f x _ _ hx (all_set' (all_getD h0 h) h)
    · exact sd_all h0 _ _ _ _ hx (all_set' hx h)
theorem push_all {P : Item → Prop} (h0 : P noI) {a : List Item} {x : Item} (hx : P x) (h : ∀ y ∈ a, P y) : ∀ y ∈ push a x, P y := by
  have h2 : ∀ y ∈ a ++ [x], P y := fun y hy => (List.mem_append.mp hy).elim (h y) fun e => (List.mem_singleton.mp e) ▸ hx
  unfold push siftdown
  exact sd_all h0 _ _ _ _ (all_getD h0 h2) h2
theorem pop_all {P : Item → Prop} (h0 : P noI) {a : List Item} (h : ∀ y ∈ a, P y) : P (pop a).1 ∧ ∀ y ∈ (pop a).2, P y := by
  have hd : ∀ y ∈ a.dropLast, P y := fun y hy => h y ((List.dropLast_sublist a).subset hy)
  have hl : P (a.getLastD noI) := by
    rw [List.getLastD_eq_getLast?]
    cases e : a.getLast? with
    | none => exact h0
    | some y => exact h y (List.mem_of_getLast? e)
  unfold pop
  split
  · exact ⟨hl, fun _ hy => nomatch hy⟩
  · refine ⟨all_getD h0 hd, ?_⟩
    have h3 : ∀ y ∈ a.dropLast.set 0 (a.getLastD noI), P y := all_set' hl hd
    unfold siftup
    exact su_all h0 _ _ _ _ (all_getD h0 h3) h3
theorem push_length (a : List Item) (x : Item) : (push a x).length = a.length + 1 := by
  unfold push; rw [siftdown_length]; simp
theorem pop_length (a : List Item) : (pop a).2.length = a.length - 1 := by
  unfold pop
  split
  · rename_i h
    simp at h ⊢
    omega
  · rw [siftup_length]; simp
/-- the rows of a length, by the heap: at most f turns -/
def rows : Nat → Int → List Item → List (List Int) → Option (List (List Int))
  | 0, _, _, _ => none
  | f + 1, n, H, F => if 0 < H.length ∧ F.length < 99 then
      rows f n
        (if (pop H).1.1 + 3 ≤ n then push (if (pop H).1.1 + 2 ≤ n then push (pop H).2 ((pop H).1.1 + 2, (pop H).1.2 ++ [2]) else (pop H).2) ((pop H).1.1 + 3, (pop H).1.2 ++ [3])
          else (if (pop H).1.1 + 2 ≤ n then push (pop H).2 ((pop H).1.1 + 2, (pop H).1.2 ++ [2]) else (pop H).2))
        (if (pop H).1.1 = n then F ++ [(pop H).1.2] else F)
    else some F
end Mine
end

section
open PySem PySem.W PyProof.Rows
set_option maxRecDepth 100000
set_option maxHeartbeats 1000000
namespace Mine
def FEnd {σ : Type} (h₀ : Heap) (L : Addr) (s : Shared) (Led : σ → List (Addr × Obj)) (ps : σ → List (Str × Value)) (P : σ → Prop) (own : List (Addr × Obj)) (s₂ : Shared) : Prop :=
  ∃ (c' : σ) (h' : Heap) (tk : Nat) (m' : Str → Option Value) (news' : List (Addr × Obj)), s₂ = { s with heap := h', toks := tk } ∧ Fr h₀ L h' m' ∧ News h₀ L h' news' ∧ (∀ p ∈ Led c', p ∈ news') ∧ (∀ p ∈ own, p ∈ news') ∧ OwnOff own ((Led c').map (·.1)) ∧ (∀ p ∈ ps c', m' p.1 = some p.2) ∧ P c'
def FPost {σ : Type} (h₀ : Heap) (L : Addr) (s : Shared) (Led : σ → List (Addr × Obj)) (ps : σ → List (Str × Value)) (P : σ → Prop) (own : List (Addr × Obj)) (Q : Flow → Shared → Prop) (f : Flow) (s₂ : Shared) : Prop :=
  match f with
  | .ret v => Q (.ret v) s₂
  | .brk => Q .next s₂
  | _ => FEnd h₀ L s Led ps P own s₂
theorem f_end {σ : Type} {h₀ : Heap} {L : Addr} {s : Shared} {Led : σ → List (Addr × Obj)} {ps : σ → List (Str × Value)} {P : σ → Prop} {own : List (Addr × Obj)} {h' : Heap} {tk : Nat} {m' : Str → Option Value} {news' : List (Addr × Obj)} (c' : σ)
    (F : Fr h₀ L h' m') (N : News h₀ L h' news') (hn : ∀ p ∈ Led c', p ∈ news') (ho : ∀ p ∈ own, p ∈ news') (hf : OwnOff own ((Led c').map (·.1))) (hk : ∀ p ∈ ps c', m' p.1 = some p.2) (hp : P c') : FEnd h₀ L s Led ps P own { s with heap := h', toks := tk } :=
  ⟨c', h', tk, m', news', rfl, F, N, hn, ho, hf, hk, hp⟩
def FJ {σ : Type} (Led : σ → List (Addr × Obj)) (ps : σ → List (Str × Value)) (P : Nat → σ → Prop) (i : Nat) (m : Str → Option Value) (nx : List (Addr × Obj)) : Prop :=
  ∃ c : σ, nx = Led c ∧ (∀ p ∈ ps c, m p.1 = some p.2) ∧ P i c
theorem fr_kst1 {h₀ h : Heap} {L : Addr} {u : Str → Option Value} {x : Str} {v : Value} {l : List (Str × Value)} (k : ∀ p ∈ l, u p.1 = some p.2) (F : Fr h₀ L h (fun y => if y = x then some v else u y)) : Fr h₀ L h (fun y => if y = x then some v else kstB u l y) := by
  rw [kst_id k]; exact F
section
variable {prog : Program} {w : World} {A : Around} {E : Value → Shared → Prop} {Q : Flow → Shared → Prop} {s : Shared} {env : Env} {h₀ : Heap} {x : Str} {body : List Stmt}
/-- a loop over a list of the ledger -/
theorem my_for {σ : Type} {l : Addr} {vs : List Value} {nn : Nat} {m₀ : Str → Option Value} {news : List (Addr × Obj)} (Led : σ → List (Addr × Obj)) (ps : σ → List (Str × Value)) (P : Nat → σ → Prop) (c₀ : σ)
    (hh : A.handled = none) (hl : (l, listOf vs.toArray nn) ∈ news) (F : Fr h₀ env.locals s.heap m₀) (N : News h₀ env.locals s.heap news) (hn : ∀ p ∈ Led c₀, p ∈ news) (hll : ∀ c, (l, listOf vs.toArray nn) ∈ Led c) (hk : ∀ p ∈ ps c₀, m₀ p.1 = some p.2) (hp : P 0 c₀)
    (turn : ∀ i v (c : σ) (u : Str → Option Value) h tk own, vs[i]? = some v → OwnOff own ((Led c).map (·.1)) → P i c → Fr h₀ env.locals h (fun y => if y = x then some v else kstB u (ps c) y) → News h₀ env.locals h (Led c ++ own) →
      wpAny (model prog w) A (execs body env) (FPost h₀ env.locals { s with heap := h, toks := tk } Led ps (P (i + 1)) own Q) E { s with heap := h, toks := tk })
    (done : ∀ (c : σ) (u : Str → Option Value) h tk, P vs.length c → Fr h₀ env.locals h (kstB u (ps c)) → News h₀ env.locals h (Led c) → Q .next { s with heap := h, toks := tk }) :
    wpAny (model prog w) A (pyIter (.ref l)) (fun it s₂ => LoopAtV prog w A h₀ env x body Q E it s₂) E s := by
  refine kdl_iter (news := Led c₀) (fun i m nx => FJ Led ps P i m nx) hh (hll c₀) F (fun p hp => N p (hn p hp)) ⟨c₀, rfl, hk, hp⟩ ?_ ?_
  · rintro i v m₁ nx h tk own hv hoff hl1 ⟨c, rfl, h1, hp'⟩ F₁ N₁
    refine wpAny_mono (turn i v c m₁ h tk own hv hoff hp' (fr_kst1 h1 F₁) N₁) (fun f s₂ q => ?_) fun _ _ x => x
    have up : FEnd h₀ env.locals { s with heap := h, toks := tk } Led ps (P (i + 1)) own s₂ → InvEndG h₀ env.locals (fun m' nx => (l, listOf vs.toArray nn) ∈ nx ∧ FJ Led ps P (i + 1) m' nx) own { s with heap := h, toks := tk } s₂ := by
      rintro ⟨c', h', tk', m', news', e, F', N', hn', ho', hf', hk', hp'⟩
      exact ⟨h', tk', m', news', Led c', e, F', N', hn', ho', hf', hll c', c', rfl, hk', hp'⟩
    cases f with
    | ret v => exact q
    | brk => exact q
    | next => exact up q
    | cont => exact up q
  · rintro m₁ nx h tk ⟨c, rfl, h1, hp'⟩ F₁ N₁
    exact done c m₁ h tk hp' (fr_kst h1 F₁) N₁
end
theorem ints_at {vs : List Value} {ns : List Int} (hi : IntsAre vs ns) {i : Nat} {v : Value} (h : vs[i]? = some v) : ∃ k t, ns[i]? = some k ∧ v = .int k t := by
  have hl : i < vs.length := (List.getElem?_eq_some_iff.mp h).1
  have hl2 : i < ns.length := by rw [← hi.length]; exact hl
  obtain ⟨t, hx⟩ := hi.get i ns[i] (List.getElem?_eq_getElem hl2)
  refine ⟨ns[i], t, List.getElem?_eq_getElem hl2, ?_⟩
  rw [hx] at h; exact (Option.some.inj h).symm
theorem take_snoc {α : Type} {l : List α} {i : Nat} {x : α} (h : l[i]? = some x) : l.take (i + 1) = l.take i ++ [x] := by simp [List.take_add_one, h]
/-- a piece more -/
def step (n : Int) (x : Item) (l : List Item) (k : Int) : List Item := if x.1 + k ≤ n then push l (x.1 + k, x.2 ++ [k]) else l
theorem rows_go {f : Nat} {n : Int} {H : List Item} {F : List (List Int)} (h1 : 0 < H.length) (h2 : F.length < 99) :
    rows (f + 1) n H F = rows f n ([2, 3].foldl (step n (pop H).1) (pop H).2) (if (pop H).1.1 = n then F ++ [(pop H).1.2] else F) := by
  conv => lhs; unfold rows
  rw [if_pos ⟨h1, h2⟩]
  rfl
theorem rows_end {f : Nat} {n : Int} {H : List Item} {F : List (List Int)} (h1 : ¬ 0 < H.length) : rows (f + 1) n H F = some F := by
  unfold rows
  rw [if_neg (fun h => h1 h.1)]
end Mine
end

section
open PySem PySem.W PyProof.Rows
set_option maxRecDepth 100000
set_option maxHeartbeats 1000000
namespace Mine
/-! tokens are only counted on -/
theorem runs_toks {M : Model} {Γ : Ctx} {p : Pos} {t : Sem PySem.Fin} {fs : List Frame} {s : Shared} {e : End} {s' : Shared} (h : Runs M Γ p t fs s e s') : s.toks ≤ s'.toks := by
  induction h with
  | done => exact Nat.le_refl _
  | raise => exact Nat.le_refl _
  | «yield» => exact Nat.le_refl _
  | fresh _ ih => exact Nat.le_of_succ_le ih
  | call _ _ ih1 ih2 => exact Nat.le_trans ih1 ih2
  | resumeFresh _ _ _ _ ih1 ih2 => exact Nat.le_trans (Nat.le_trans (Nat.le_refl _) ih1) (Nat.le_trans (Nat.le_refl _) ih2)
  | resumeSuspended _ _ _ _ ih1 ih2 => exact Nat.le_trans (Nat.le_trans (Nat.le_refl _) ih1) (Nat.le_trans (Nat.le_refl _) ih2)
  | segRet _ _ ih1 ih2 => exact Nat.le_trans ih1 ih2
  | segGen _ _ ih1 ih2 => exact Nat.le_trans ih1 ih2
  | segSuspGen _ _ _ _ ih1 ih2 => exact Nat.le_trans ih1 ih2
  | _ => assumption
theorem wakes_toks {M : Model} {Γ : Ctx} {p : Pos} {g : Nat} {r : Resume} {s s' : Shared} {res : GenResult} (h : Wakes M Γ p g r s res s') : s.toks ≤ s'.toks := by
  unfold Wakes at h
  split at h
  · exact h.elim
  · split at h
    · obtain ⟨e, s₁, h1, _, _, rfl⟩ := h
      have q := runs_toks h1
      exact q
    · obtain ⟨_, rfl⟩ := h
      exact Nat.le_refl _
    · obtain ⟨_, rfl⟩ := h
      exact Nat.le_refl _
  · obtain ⟨e, s₁, h1, _, _, rfl⟩ := h
    have q := runs_toks h1
    exact q
  · obtain ⟨_, rfl⟩ := h
    exact Nat.le_refl _
  · obtain ⟨_, rfl⟩ := h
    exact Nat.le_refl _
theorem wp_free {α : Type} {M : Model} {Γ : Ctx} {Q : α → Pos → Shared → Prop} {E : Value → Pos → Shared → Prop} {T : Nat} : ∀ (t : Sem α) (p : Pos) (s : Shared), T ≤ s.toks → Sem.wp M Γ t (fun a p' s' => T ≤ s'.toks → Q a p' s') (fun e p' s' => T ≤ s'.toks → E e p' s') p s → Sem.wp M Γ t Q E p s := by
  intro t
  induction t with
  | pure a => intro p s hT h; exact h hT
  | raise e => intro p s hT h; exact h hT
  | unsupported => intro p s hT h; exact h
  | finish => intro p s hT h; exact h
  | rule _ k ih => intro p s hT h; exact ih () p s hT h
  | «at» p' k ih => intro p s hT h; exact ih () p' s hT h
  | load a q k ih =>
    intro p s hT h
    obtain ⟨o, ho, h⟩ := h
    exact ⟨o, ho, ih o p s hT h⟩
  | update a q f k ih =>
    intro p s hT h
    exact ⟨h.1, ih () p _ hT h.2⟩
  | loadIfAlive a k ih => intro p s hT h; exact ih _ p s hT h
  | point _ k ih => intro p s hT h; exact ih () p s hT h
  | register => intro p s hT h; exact h
  | alloc o k ih => intro p s hT h; exact ih _ p _ hT h
  | fresh k ih => intro p s hT h; exact ih _ p _ (Nat.le_succ_of_le hT) h
  | ask k ih => intro p s hT h; exact ih _ p s hT h
  | choose src n k ih => intro p s hT h; exact ⟨h.1, ih _ p _ hT h.2⟩
  | os q l k ih => intro p s hT h; exact ih _ p _ hT h
  | call c hd g l k ih =>
    intro p s hT h
    obtain ⟨r, s₁, h1, h2⟩ := h
    exact ⟨r, s₁, h1, ih r p s₁ (Nat.le_trans hT (runs_toks h1)) h2⟩
  | handled own k ih => intro p s hT h; exact ih _ p s hT h
  | genState g k ih =>
    intro p s hT h
    obtain ⟨st, h1, h2⟩ := h
    exact ⟨st, h1, ih _ p s hT h2⟩
  | newGen c k ih => intro p s hT h; exact ih _ p _ hT h
  | resume g r l k ih =>
    intro p s hT h
    obtain ⟨res, s₁, h1, h2⟩ := h
    exact ⟨res, s₁, h1, ih _ p s₁ (Nat.le_trans hT (wakes_toks h1)) h2⟩
  | «yield» => intro p s hT h; exact h
  | stack k ih => intro p s hT h; exact ih _ p s hT h
  | fork => intro p s hT h; exact h
  | thread k ih => intro p s hT h; exact ih 0 p s hT h
  | await => intro p s hT h; exact h
theorem any_free {α : Type} {M : Model} {A : Around} {t : Sem α} {Q : α → Shared → Prop} {E : Value → Shared → Prop} {s : Shared} (h : wpAny M A t (fun a s' => s.toks ≤ s'.toks → Q a s') (fun e s' => s.toks ≤ s'.toks → E e s') s) : wpAny M A t Q E s :=
  fun Γ p hΓ => wp_free t p s (Nat.le_refl _) (h Γ p hΓ)
theorem any_freeQ {α : Type} {M : Model} {A : Around} {t : Sem α} {Q : α → Shared → Prop} {E : Value → Shared → Prop} {s : Shared} (h : wpAny M A t (fun a s' => s.toks ≤ s'.toks → Q a s') E s) : wpAny M A t Q E s :=
  any_free (wpAny_mono h (fun _ _ x => x) fun _ _ x _ => x)
theorem code_free {M : Model} {A : Around} {c : Code} {R : Result → Shared → Prop} {s : Shared} (h : codeAny M A c (fun r s' => s.toks ≤ s'.toks → R r s') s) : codeAny M A c R s := fun Γ p hc hΓ => by
  obtain ⟨r, s₁, h1, h2⟩ := h Γ p hc hΓ
  exact ⟨r, s₁, h1, h2 (runs_toks h1)⟩
section
variable {prog : Program} {w : World} {A : Around} {s : Shared} {env : Env} {h₀ : Heap}
theorem For_T {E : Value → Shared → Prop} {Q : Flow → Shared → Prop} {x : Str} {px pos : Pos} {iter : PySem.Expr} {body : List Stmt} {m : Str → Option Value} (_F : Fr h₀ env.locals s.heap m) (hx : env.kindOf x = some .local)
    (hp : (env.scope.kind == .class || (env.scope.kind == .module && env.locals != env.globals)) = false)
    (h : wpAny (model prog w) A (eval iter env) (fun xv s₁ => wpAny (model prog w) A (pyIter xv) (fun it s₂ => LoopAtV prog w A h₀ env x body (fun f s' => s₁.toks ≤ s'.toks → Q f s') E it s₂) E s₁) E s)
    (hE : PassesOwn (model prog w) A env E) (hs : ∀ x, foldedSetIterable iter env x = pure x := by intro _; rfl) :
    wpAny (model prog w) A (exec (.For (.Name x px) iter body [] pos) env) Q E s := by
  refine wpAny_For (wpAny_mono h (fun xv s₁ h₁ => any_freeQ (wpAny_mono h₁ (fun it s₂ h₂ hle => ?_) fun _ _ e => e)) fun _ _ e => e) hs
  obtain ⟨I, fp, wr, n, P, St, m, news, J, rfl, W, hLf, hwr, hnw, hst, F, N, h0, step, hQ⟩ := h₂
  refine code_free (codeAny_mono (codeAny_forLoop_frV (R := fun r s' => match r with | .ok f => s₁.toks ≤ s'.toks → Q f s' | .error e => cameBackBy (model prog w) A env E e s') W hx hp hLf hwr hnw hst F N J h0 (by intros; exact wpAny_passesOwn hE (by apply step <;> assumption)) hQ) fun r s' hr hle2 => ?_)
  cases r with
  | ok f => exact hr (Nat.le_trans hle hle2)
  | error e => exact hr
end
end Mine
end

section
open PySem PySem.W PyProof.Rows
set_option maxRecDepth 100000
set_option maxHeartbeats 1000000
namespace Mine
/-- a tuple of ints alone: its tokens lie between nought and T -/
def TokO (T : Nat) (o : Obj) : Prop := ∀ vs n, o.data = .seq vs n → (∀ v ∈ vs.toList, ∃ i t, v = .int i t) → ∀ i t, Value.int i t ∈ vs.toList → 0 < t ∧ t < T
def TokL (T : Nat) (l : List (Addr × Obj)) : Prop := ∀ p ∈ l, TokO T p.2
theorem TokO.mono {T T' : Nat} {o : Obj} (h : TokO T o) (hT : T ≤ T') : TokO T' o := fun vs n e a i t m => ⟨(h vs n e a i t m).1, Nat.lt_of_lt_of_le (h vs n e a i t m).2 hT⟩
theorem TokL.mono {T T' : Nat} {l : List (Addr × Obj)} (h : TokL T l) (hT : T ≤ T') : TokL T' l := fun p hp => (h p hp).mono hT
theorem tok_item {T : Nat} {i : Int} {t : Tok} {y : Addr} : TokO T (tupO [.int i t, .ref y]) := by
  intro vs n e a
  cases e
  obtain ⟨_, _, h⟩ := a (.ref y) (by simp)
  cases h
theorem tok_nil {T : Nat} : TokO T (tupO []) := by
  intro vs n e a i t m
  cases e
  simp at m
theorem tok_cons {T : Nat} {l : List (Addr × Obj)} {p : Addr × Obj} (h : TokO T p.2) (hl : TokL T l) : TokL T (p :: l) := List.forall_mem_cons.mpr ⟨h, hl⟩
section
variable {prog : Program} {w : World} {A : Around} {E : Value → Shared → Prop} {s : Shared} {h₀ : Heap} {L H : Addr} {m : Str → Option Value} {news news' L9 : List (Addr × Obj)} {vs : List Value} {n : Nat}
theorem ints_all {vs : List Value} {r : List Int} (h : IntsAre vs r) : ∀ v ∈ vs, ∃ i t, v = .int i t := by
  induction h with
  | nil => intro v hv; cases hv
  | cons i t _ ih =>
    intro v hv
    rcases List.mem_cons.mp hv with rfl | hv
    · exact ⟨i, t, rfl⟩
    · exact ih v hv
theorem row_tok {T : Nat} {a : Addr} {r : List Int} (hT : TokL T L9) (hd : DatIn L9 (.ref a) (rowD r)) :
    ∃ vs n, (a, ({ cls := .type "tuple", data := .seq vs.toArray n } : Obj)) ∈ L9 ∧ IntsAre vs r ∧ ∀ i t, Value.int i t ∈ vs → 0 < t ∧ t < T := by
  cases hd with
  | @tuple a vs n _ hm hr =>
    have hi := row_vals hr
    exact ⟨vs, n, hm, hi, fun i t m => hT _ hm _ _ rfl (ints_all hi) i t m⟩
theorem my_taddT {b q : Addr} {r : List Int} {k : Int} {t : Tok} {T : Nat} {Q : Value → Shared → Prop} (F : Fr h₀ L s.heap m) (N : News h₀ L s.heap ((q, tupO [.int k t]) :: news)) (hq : AllLt q news)
    (hs : ∀ p ∈ L9, p ∈ (q, tupO [.int k t]) :: news) (hb : DatIn L9 (.ref b) (rowD r)) (hT : TokL T L9) (ht : 0 < t ∧ t < T) (hz : r.length ≤ 1000)
    (h : ∀ y vs' h', Fr h₀ L h' m → News h₀ L h' ((y, tupO vs') :: news) → (∀ p ∈ news, p.1 < y) → IntsAre vs' (r ++ [k]) → TokO T (tupO vs') → Q (.ref y) { s with heap := h' }) : wpAny (model prog w) A (binaryOp .Add (.ref b) (.ref q)) Q E s := by
  obtain ⟨us, j, hm, hi, htk⟩ := row_tok hT hb
  have ho := (N _ (hs _ hm)).1
  have hl : us.length = r.length := hi.length
  have hn : ∀ p ∈ news, p.1 < q := tb_ltOf hq
  have N0 : News h₀ L s.heap news := fun p hp => N p (.tail _ hp)
  refine add_tuples F N ⟨_, ho, rfl, j, rfl⟩ ⟨_, (N _ (.head _)).1, rfl, 0, rfl⟩ (fun e => ?_) (fun _ e => nomatch e) (fun _ _ h' F' N' => ?_) (by rw [PySem.sizeLine_eq]; simp; omega)
  · subst e
    have er : r = [] := by cases hi; rfl
    subst er
    refine h q [.int k t] _ F N hn (.cons k t .nil) ?_
    intro vs n e _ i u hmem
    cases e
    simp at hmem
    obtain ⟨rfl, rfl⟩ := hmem
    exact ht
  · refine h _ _ h' F' (fun p hp => by
      rcases List.mem_cons.mp hp with rfl | hp
      · exact N' _ (.head _)
      · exact N' _ (.tail _ (.tail _ hp))) (fun p hp => Heap.lt_size (N0 p hp).1) (hi.append (.cons k t .nil)) ?_
    intro vs n e _ i u hmem
    cases e
    have hm2 : Value.int i u ∈ us ∨ i = k ∧ u = t := by simpa using hmem
    rcases hm2 with h1 | ⟨rfl, rfl⟩
    · exact htk i u h1
    · exact ht
end
/-! a while whose word knows the count of tokens -/
def TEnd {σ : Type} (h₀ : Heap) (L : Addr) (s : Shared) (Led : σ → List (Addr × Obj)) (ps : σ → List (Str × Value)) (P : σ → Nat → Prop) (μ : σ → Nat) (c : σ) (s₂ : Shared) : Prop :=
  ∃ (c' : σ) (h' : Heap) (tk : Nat) (m' : Str → Option Value), s₂ = { s with heap := h', toks := tk } ∧ Fr h₀ L h' m' ∧ News h₀ L h' (Led c') ∧ (∀ p ∈ ps c', m' p.1 = some p.2) ∧ P c' tk ∧ μ c' < μ c
def TPost {σ : Type} (h₀ : Heap) (L : Addr) (s : Shared) (Led : σ → List (Addr × Obj)) (ps : σ → List (Str × Value)) (P : σ → Nat → Prop) (μ : σ → Nat) (Q : Flow → Shared → Prop) (c : σ) (f : Flow) (s₂ : Shared) : Prop :=
  match f with
  | .ret v => Q (.ret v) s₂
  | .brk => Q .next s₂
  | _ => TEnd h₀ L s Led ps P μ c s₂
theorem t_end {σ : Type} {h₀ : Heap} {L : Addr} {s : Shared} {Led : σ → List (Addr × Obj)} {ps : σ → List (Str × Value)} {P : σ → Nat → Prop} {μ : σ → Nat} {c : σ} {h' : Heap} {tk : Nat} {m' : Str → Option Value} (c' : σ)
    (F : Fr h₀ L h' m') (N : News h₀ L h' (Led c')) (hk : ∀ p ∈ ps c', m' p.1 = some p.2) (hp : P c' tk) (hm : μ c' < μ c) : TEnd h₀ L s Led ps P μ c { s with heap := h', toks := tk } := ⟨c', h', tk, m', rfl, F, N, hk, hp, hm⟩
section
variable {prog : Program} {w : World} {A : Around} {E : Value → Shared → Prop} {Q : Flow → Shared → Prop} {s : Shared} {env : Env} {h₀ : Heap} {L : Addr}
theorem my_whileT {σ : Type} {test : PySem.Expr} {body : List Stmt} {pos : Pos} {m₀ : Str → Option Value} {news : List (Addr × Obj)} (Led : σ → List (Addr × Obj)) (ps : σ → List (Str × Value)) (P : σ → Nat → Prop) (μ : σ → Nat) (c₀ : σ)
    (F : Fr h₀ L s.heap m₀) (N : News h₀ L s.heap news) (hn : ∀ p ∈ Led c₀, p ∈ news) (hk : ∀ p ∈ ps c₀, m₀ p.1 = some p.2) (hp : P c₀ s.toks) (hE : PassesOwn (model prog w) A env E)
    (turn : ∀ (c : σ) (u : Str → Option Value) h tk, P c tk → Fr h₀ L h (kstB u (ps c)) → News h₀ L h (Led c) →
      wpAny (model prog w) A (isTrue test env (eval test env)) (fun b s₂ =>
        if b = true then wpAny (model prog w) A (execs body env) (TPost h₀ L s Led ps P μ Q c) E s₂ else Q .next s₂) E { s with heap := h, toks := tk }) :
    wpAny (model prog w) A (exec (.While test body [] pos) env) Q E s := by
  refine wpAny_While (codeAny_whileLoop (fun n s' => ∃ h₁ tk₁ m₁ c, s' = { s with heap := h₁, toks := tk₁ } ∧ Fr h₀ L h₁ m₁ ∧ News h₀ L h₁ (Led c) ∧ (∀ p ∈ ps c, m₁ p.1 = some p.2) ∧ P c tk₁ ∧ μ c = n) ?_ (μ c₀) ⟨s.heap, s.toks, m₀, c₀, rfl, F, fun p h => N p (hn p h), hk, hp, rfl⟩)
  rintro n s' ⟨h₁, tk₁, m₁, c, rfl, F₁, N₁, k₁, J₁, rfl⟩
  refine wpAny_mono (turn c m₁ h₁ tk₁ J₁ (fr_kst k₁ F₁) N₁) (fun b s₂ h₂ => ?_) hE
  cases b with
  | false =>
    simp only [Bool.false_eq_true, if_false] at h₂ ⊢
    exact wpAny_execs_nil h₂
  | true =>
    simp only [if_true] at h₂ ⊢
    refine wpAny_mono h₂ (fun f s₃ h₃ => ?_) hE
    cases f with
    | next =>
      obtain ⟨c', h', tk, m₂, rfl, F₂, N₂, k₂, J₂, hn⟩ := h₃
      exact ⟨μ c', hn, h', tk, m₂, c', rfl, F₂, N₂, k₂, J₂, rfl⟩
    | cont =>
      obtain ⟨c', h', tk, m₂, rfl, F₂, N₂, k₂, J₂, hn⟩ := h₃
      exact ⟨μ c', hn, h', tk, m₂, c', rfl, F₂, N₂, k₂, J₂, rfl⟩
    | brk => exact h₃
    | ret v => exact h₃
end
end Mine
end

section
open PySem PySem.W PyProof.Rows
set_option maxRecDepth 100000
set_option maxHeartbeats 1000000
namespace Mine
def WEnd {σ : Type} (h₀ : Heap) (L : Addr) (s : Shared) (Led : σ → List (Addr × Obj)) (ps : σ → List (Str × Value)) (R : σ → Prop) (wr : List Addr) (own : List (Addr × Obj)) (s₂ : Shared) : Prop :=
  ∃ (c' : σ) (h' : Heap) (tk : Nat) (m' : Str → Option Value) (news' : List (Addr × Obj)), s₂ = { s with heap := h', toks := tk } ∧ Fr h₀ L h' m' ∧ News h₀ L h' news' ∧ (∀ p ∈ own ++ Led c', p ∈ news') ∧ (∀ p ∈ Led c', p.1 ∉ wr) ∧ (∀ p ∈ ps c', m' p.1 = some p.2) ∧ R c'
def WPost {σ : Type} (h₀ : Heap) (L : Addr) (s : Shared) (Led : σ → List (Addr × Obj)) (ps : σ → List (Str × Value)) (R : σ → Prop) (wr : List Addr) (own : List (Addr × Obj)) (Q : Flow → Shared → Prop) (f : Flow) (s₂ : Shared) : Prop :=
  match f with
  | .ret v => Q (.ret v) s₂
  | .brk => Q .next s₂
  | _ => WEnd h₀ L s Led ps R wr own s₂
theorem w_end {σ : Type} {h₀ : Heap} {L : Addr} {s : Shared} {Led : σ → List (Addr × Obj)} {ps : σ → List (Str × Value)} {R : σ → Prop} {wr : List Addr} {own : List (Addr × Obj)} {h' : Heap} {tk : Nat} {m' : Str → Option Value} {news' : List (Addr × Obj)} (c' : σ)
    (F : Fr h₀ L h' m') (N : News h₀ L h' news') (hn : ∀ p ∈ own ++ Led c', p ∈ news') (hw : ∀ p ∈ Led c', p.1 ∉ wr) (hk : ∀ p ∈ ps c', m' p.1 = some p.2) (hp : R c') : WEnd h₀ L s Led ps R wr own { s with heap := h', toks := tk } :=
  ⟨c', h', tk, m', news', rfl, F, N, hn, hw, hk, hp⟩
section
variable {prog : Program} {w : World} {A : Around} {E : Value → Shared → Prop} {Q : Flow → Shared → Prop} {s : Shared} {env : Env} {h₀ : Heap} {x : Str} {body : List Stmt}
/-- a loop over any source that walks -/
theorem my_forW {σ : Type} {I : Addr} {fp wr : List Addr} {n : Nat} {P : Nat → Value → Prop} {St : Nat → Heap → Prop} {m₀ : Str → Option Value} (Led : σ → List (Addr × Obj)) (ps : σ → List (Str × Value)) (R : Nat → σ → Prop) (c₀ : σ)
    (W : Walks prog w A I fp wr n P St) (hL : env.locals ∉ fp) (hwr : ∀ b ∈ wr, h₀.get? b = none) (hnw : ∀ p ∈ Led c₀, p.1 ∉ wr) (hst : St 0 s.heap) (F : Fr h₀ env.locals s.heap m₀) (N : News h₀ env.locals s.heap (Led c₀)) (hk : ∀ p ∈ ps c₀, m₀ p.1 = some p.2) (hp : R 0 c₀)
    (turn : ∀ i v (c : σ) (u : Str → Option Value) h tk own, i < n → P i v → (∀ p ∈ Led c, p.1 ∉ wr) → (∀ p ∈ own, p.1 ∈ fp) → R i c → Fr h₀ env.locals h (fun y => if y = x then some v else kstB u (ps c) y) → News h₀ env.locals h (own ++ Led c) →
      wpAny (model prog w) A (execs body env) (WPost h₀ env.locals { s with heap := h, toks := tk } Led ps (R (i + 1)) wr own Q) E { s with heap := h, toks := tk })
    (done : ∀ (c : σ) (u : Str → Option Value) h tk, R n c → Fr h₀ env.locals h (kstB u (ps c)) → News h₀ env.locals h (Led c) → Q .next { s with heap := h, toks := tk }) :
    LoopAtV prog w A h₀ env x body Q E (.ref I) s := by
  refine ⟨I, fp, wr, n, P, St, m₀, Led c₀, FJ Led ps R, rfl, W, hL, hwr, hnw, hst, F, N, ⟨c₀, rfl, hk, hp⟩, ?_, ?_⟩
  · rintro i v m₁ news₁ s₁ own ⟨h, tk, rfl⟩ hi hv ⟨c, rfl, h1, hp'⟩ hoff hown _ _ _ F₁ N₁
    refine wpAny_mono (turn i v c m₁ h tk own hi hv hoff hown hp' (fr_kst1 h1 F₁) N₁) (fun f s₂ q => ?_) fun _ _ x => x
    have up : WEnd h₀ env.locals { s with heap := h, toks := tk } Led ps (R (i + 1)) wr own s₂ → LoopStepU h₀ env.locals wr own (FJ Led ps R (i + 1)) { s with heap := h, toks := tk } .next s₂ := by
      rintro ⟨c', h', tk', m', news', e, F', N', hn', hw', hk', hp'⟩
      exact ⟨rfl, h', tk', m', Led c', e, F', fun p hp => N' p (hn' p hp), hw', c', rfl, hk', hp'⟩
    cases f with
    | ret v => exact .ret q
    | brk => exact .brk q
    | next => exact .next (up q)
    | cont => exact .cont (up q)
  · rintro h' tk m' news' F' N' _ ⟨c, rfl, h1, hp'⟩
    exact done c m' h' tk hp' (fr_kst h1 F') N'
theorem my_is {p k : Int} {t u : Tok} {Q : Value → Shared → Prop} (ht : 0 < t) (hu : t < u) (hk : smallInt k = true) (h : Q (.bool (decide (p = k))) s) : wpAny (model prog w) A (compareOp .Is (.int p t) (.int k u)) Q E s := by
  have e1 : (t == 0 || u == 0) = false := by rw [beq_eq_false_iff_ne.mpr (Nat.ne_of_gt ht), beq_eq_false_iff_ne.mpr (Nat.ne_of_gt (Nat.lt_trans ht hu))]; rfl
  have e2 : (t == u) = false := beq_eq_false_iff_ne.mpr (Nat.ne_of_lt hu)
  show wpAny _ _ (isSame (.int p t) (.int k u) >>= _) _ _ _
  refine wpAny_bind ?_
  show wpAny _ _ (if (p == k && smallInt p) = true then isSame.cachedInt t u else isSame.created (p == k) t u) _ _ _
  by_cases e : p = k
  · subst e
    have : (p == p && smallInt p) = true := by simp [hk]
    rw [if_pos this]
    unfold isSame.cachedInt
    rw [if_neg (by simp [e1])]
    refine wpAny_bind (wpAny_rule (wpAny_pure (wpAny_pure ?_)))
    simpa using h
  · have e3 : (p == k) = false := by simpa using e
    have : (p == k && smallInt p) = false := by rw [e3]; rfl
    rw [this, if_neg (by simp)]
    unfold isSame.created
    rw [e3, if_neg (by simp [e1]), if_neg (by simp [e2])]
    simp only [Bool.not_false, if_true]
    refine wpAny_pure (wpAny_pure ?_)
    rw [decide_eq_false e] at h
    exact h
end
end Mine
end

section
open PySem PySem.W PyProof.Rows
set_option maxRecDepth 100000
set_option maxHeartbeats 1000000
namespace Mine
section
variable {prog : Program} {w : World} {A : Around} {E : Value → Shared → Prop} {s : Shared} {h₀ : Heap} {L H : Addr} {m : Str → Option Value} {news news' L9 : List (Addr × Obj)} {vs : List Value} {n : Nat}
theorem my_half {a b : Nat} {t u : Tok} {Q : Value → Shared → Prop} (h : Q (.int (((a + b) / 2 : Nat) : Int) s.toks) { s with toks := s.toks + 1 }) :
    wpAny (model prog w) A (binaryOp .FloorDiv (.int ((a : Int) + (b : Int)) t) (.int 2 u)) Q E s := by
  have e : ((a : Int) + (b : Int)).fdiv 2 = (((a + b) / 2 : Nat) : Int) := by
    rw [Int.fdiv_eq_ediv_of_nonneg _ (by omega)]
    omega
  exact floordiv_int (by decide) (by rw [e]; exact h) (Or.inl (PyProof.noPylong_small (by omega)))
theorem all_take {α : Type} {f : α → Dat} : ∀ {vs : List Value} {l : List α}, DatAll L9 vs (l.map f) → ∀ k : Nat, DatAll L9 (vs.take k) ((l.take k).map f)
  | _, _, _, 0 => .nil
  | _, [], h, _ + 1 => by cases h; exact .nil
  | _, _ :: _, h, k + 1 => by
    cases h with
    | cons h1 h2 => exact .cons h1 (all_take h2 k)
theorem all_drop {α : Type} {f : α → Dat} : ∀ {vs : List Value} {l : List α}, DatAll L9 vs (l.map f) → ∀ k : Nat, DatAll L9 (vs.drop k) ((l.drop k).map f)
  | _, _, h, 0 => h
  | _, [], h, _ + 1 => by cases h; exact .nil
  | _, _ :: _, h, k + 1 => by
    cases h with
    | cons h1 h2 => exact all_drop h2 k
theorem my_insert {α : Type} {f : α → Dat} {l : List α} {k : Nat} {t : Tok} {v : Value} {x : α} {Q : Value → Shared → Prop} (F : Fr h₀ L s.heap m) (N : News h₀ L s.heap news) (U : Upd H (listOf vs.toArray n) (listOf (vs.take k ++ v :: vs.drop k).toArray (n + 1)) news news')
    (hd : DatAll L9 vs (l.map f)) (hx : DatIn L9 v (f x)) (hk : k ≤ l.length) (hz : l.length ≤ 100000)
    (h : ∀ h', Fr h₀ L h' m → News h₀ L h' news' → DatAll L9 (vs.take k ++ v :: vs.drop k) ((l.take k ++ x :: l.drop k).map f) → Q .none { s with heap := h' }) :
    wpAny (model prog w) A (call (.builtin "list.insert") [.ref H, .int (k : Int) t, v]) Q E s := by
  have hl : vs.length = l.length := by simpa using hd.length
  refine kl_insert F N (l := vs.take k ++ v :: vs.drop k) ?_ ?_ U (by rw [PySem.sizeLine_eq]; show vs.length ≤ _; omega) (fun h' F' N' => h h' F' N' ?_)
  · unfold Builtin.List.listFitsIndex
    simp
    omega
  · unfold kl_ins
    rw [if_neg (by omega)]
    have e : min (k : Int).toNat vs.toArray.toList.length = k := by
      simp
      omega
    rw [e]
  · rw [List.map_append, List.map_cons]
    exact (all_take hd k).append (.cons hx (all_drop hd k))
end
/-- where the row goes -/
def bis : Nat → List Int → List (List Int) → Nat → Nat → Nat
  | 0, _, _, lo, _ => lo
  | f + 1, x, a, lo, hi => if lo < hi then (if rlt x (a.getD ((lo + hi) / 2) []) then bis f x a lo ((lo + hi) / 2) else bis f x a ((lo + hi) / 2 + 1) hi) else lo
def bisect (x : List Int) (a : List (List Int)) : Nat := bis a.length x a 0 a.length
def insort (a : List (List Int)) (x : List Int) : List (List Int) := a.take (bisect x a) ++ x :: a.drop (bisect x a)
theorem getR {l : List (List Int)} {k : Nat} {x : List Int} (h : l[k]? = some x) : l.getD k [] = x := by
  rw [List.getD_eq_getElem?_getD, h]; rfl
theorem bis_stop {f lo hi : Nat} {x : List Int} {a : List (List Int)} (h : ¬ lo < hi) : bis f x a lo hi = lo := by
  cases f <;> simp [bis, h]
theorem bis_left {f lo hi : Nat} {x y : List Int} {a : List (List Int)} (h : lo < hi) (hf : hi - lo ≤ f) (hy : a[(lo + hi) / 2]? = some y) (hl : rlt x y = true) : ∃ g, (lo + hi) / 2 - lo ≤ g ∧ bis f x a lo hi = bis g x a lo ((lo + hi) / 2) := by
  obtain ⟨g, rfl⟩ : ∃ g, f = g + 1 := ⟨f - 1, by omega⟩
  refine ⟨g, by omega, ?_⟩
  conv => lhs; unfold bis
  rw [if_pos h, getR hy, if_pos hl]
theorem bis_right {f lo hi : Nat} {x y : List Int} {a : List (List Int)} (h : lo < hi) (hf : hi - lo ≤ f) (hy : a[(lo + hi) / 2]? = some y) (hl : rlt x y = false) : ∃ g, hi - ((lo + hi) / 2 + 1) ≤ g ∧ bis f x a lo hi = bis g x a ((lo + hi) / 2 + 1) hi := by
  obtain ⟨g, rfl⟩ : ∃ g, f = g + 1 := ⟨f - 1, by omega⟩
  refine ⟨g, by omega, ?_⟩
  conv => lhs; unfold bis
  rw [if_pos h, getR hy, if_neg (by simp [hl])]
theorem bis_le : ∀ (f lo hi : Nat) (x : List Int) (a : List (List Int)), lo ≤ hi → bis f x a lo hi ≤ hi
  | 0, lo, hi, x, a, h => by unfold bis; exact h
  | f + 1, lo, hi, x, a, h => by
    unfold bis
    split
    · split
      · exact Nat.le_trans (bis_le f _ _ x a (by omega)) (by omega)
      · exact bis_le f _ _ x a (by omega)
    · exact h
theorem bisect_le (x : List Int) (a : List (List Int)) : bisect x a ≤ a.length := bis_le _ _ _ _ _ (Nat.zero_le _)
end Mine
end

section
open PySem PySem.W PyProof.Rows
set_option maxRecDepth 100000
set_option maxHeartbeats 1000000
namespace Mine
abbrev PR : Program := PySem.Challenge.rw_xn0008_01.row.prog
abbrev Led := List (Addr × Obj)

/-- what a call of the def at f does, from any frame -/
def Spec (w : World) (f : Addr) (dn cu : Nat) (args : List Value) (news : Led) (Post : Value → Led → Prop) : Prop :=
  ∀ (p : Program) (loose : List Str) (mean : ExcName → Option Value) (mg mb : Str → Option Value) (dp un : Nat) (gd : Option (List Code)) (cn : Str) (cs : Scope) (a : Addr) (ccd : Value) (cl : List (Str × Addr)) (outer : List Env) (A₀ : Around) (base h₀ : Heap) (L : Addr) (m : Str → Option Value) (s : Shared) (Q E : Value → Shared → Prop),
    Below A₀ base outer h₀ → Fr h₀ L s.heap m → (hd.heap_39 w.params).In h₀ → News h₀ L s.heap news → Top p loose mean mg mb h₀ → cs.kind = .function → dp + dn < recursionLimit → un + cu < cLine →
    (∀ r h' tk' news', Fr h₀ L h' m → News h₀ L h' news' → Post r news' → Q r { s with heap := h', toks := tk' }) →
    wpAny (model PR w) (ktrTop dp un gd cn cs L a ccd cl outer) (call (.ref f) args) Q E s

theorem spec_use {w : World} {f : Addr} {dn cu : Nat} {args : List Value} {news : Led} {Post : Value → Led → Prop} {p : Program} {loose : List Str} {mean : ExcName → Option Value} {mg mb : Str → Option Value} {dp un : Nat} {gd : Option (List Code)} {cn : Str} {cs : Scope} {a : Addr} {ccd : Value} {cl : List (Str × Addr)} {outer : List Env} {A₀ : Around} {base h₀ : Heap} {L : Addr} {m : Str → Option Value} {s : Shared} {Q E : Value → Shared → Prop}
    (S : Spec w f dn cu args news Post) (B : Below A₀ base outer h₀) (F : Fr h₀ L s.heap m) (X : (hd.heap_39 w.params).In h₀) (N : News h₀ L s.heap news) (T : Top p loose mean mg mb h₀) (hk : cs.kind = .function) (hdp : dp + dn < recursionLimit) (hun : un + cu < cLine)
    (h : ∀ r h' tk' news', Fr h₀ L h' m → News h₀ L h' news' → Post r news' → Q r { s with heap := h', toks := tk' }) :
    wpAny (model PR w) (ktrTop dp un gd cn cs L a ccd cl outer) (call (.ref f) args) Q E s := S _ _ _ _ _ _ _ _ _ _ _ _ _ _ _ _ _ _ _ _ _ _ B F X N T hk hdp hun h

theorem tail_sub {l l' : Led} {q : Addr × Obj} (h : ∀ p ∈ l, p ∈ l') : ∀ p ∈ l, p ∈ q :: l' := fun p hp => List.Mem.tail _ (h p hp)
def fm (l : List (Str × Value)) (y : Str) : Option Value := l.lookup y


local macro_rules | `(tactic| walk_at "subscriptTail") => `(tactic| (k_here; (with_reducible show wpAny _ _ (subscriptTail _ _ (Value.ref _) (Value.int _ _)) _ _ _); (with_unfolding_all refine' my_sub ?k1 ?k2 ?k3 ?k4 ?k5 ?k6 ?_ ?k7; (case k1 => k_asm); (case k2 => k_mem); (case k3 => with_reducible assumption); (case k4 => omega); (case k5 => omega); (case k6 => omega); (case k7 => with_unfolding_all rfl); k_whole); intro a' x' hx' hD'; (try dsimp only)))
local macro_rules | `(tactic| walk_at "compareOp Lt ref ref") => `(tactic| (k_here; (with_reducible show wpAny _ _ (compareOp CmpOp.Lt (Value.ref _) (Value.ref _)) _ _ _); (refine' my_lt ?k1 ?k2 ?k3 ?k4 ?k5 ?_; (case k1 => k_asm); (case k3 => with_reducible assumption); (case k4 => with_reducible assumption); (case k2 => exact tail_sub (by assumption)); (case k5 => ((try simp only [units_in1, units_deeper, Around.mark_units, units_caller]); (try dsimp only [ktrTop]); omega)); k_whole); (try dsimp only)))
local macro_rules | `(tactic| walk_at "exec While Compare cons nil") => `(tactic| (refine Hold.h ?_))
local macro_rules | `(tactic| k_all) => `(tactic| assumption)
local macro_rules | `(tactic| walk_at "setItem ref int ref") => `(tactic| (k_here; (with_unfolding_all refine' my_set ?k1 ?k2 ?k3 ?k4 ?k5 ?k6 ?k7 ?k8 ?_; (case k1 => k_asm); (case k2 => k_asm); (case k3 => k_upd); (case k4 => with_reducible assumption); (case k5 => with_reducible assumption); (case k6 => omega); (case k7 => omega); (case k8 => omega); k_whole); intro h' F' N' hd'; (try dsimp only); (try k_sweep)))
local macro_rules | `(tactic| walk_at "binaryOp RShift int int") => `(tactic| (refine my_shr (by omega) ?_; (try dsimp only)))

local macro_rules | `(tactic| walk_at "MyPost") => `(tactic| (dsimp only [MyPost]))

set_option maxHeartbeats 8000000 in
theorem siftdown_spec (w : World) (H : Addr) (vs : List Value) (n : Nat) (rest L9 : Led) (its : List Item) (pos : Nat) (t0 t1 : Tok)
    (ho : ∀ p ∈ rest, p.1 ≠ H) (hs9 : ∀ p ∈ L9, p ∈ rest) (hd : DatAll L9 vs (its.map itemD)) (hp : pos < its.length) (hz : its.length ≤ 1000) :
    Spec w 62 3 60 [.ref H, .int 0 t0, .int pos t1] ((H, listOf vs.toArray n) :: rest)
      (fun r news' => r = .none ∧ ∃ vs', news' = (H, listOf vs'.toArray n) :: rest ∧ DatAll L9 vs' ((siftdown its pos).map itemD)) := by
  w_top off
  unfold Spec PR
  k_fill
  intro p loose mean mg mb dp un gd cn cs a ccd cl outer A₀ base h₀ L m s Q E B F X N T hk hdp hun hret
  refine wpAny_call ?_
  k_dflt ktr_enter
  rename Fr _ _ _ (fun _ => _) => F9
  replace F9 : Fr _ _ _ (fm [(Str.ofString "pos", .int pos t1), (Str.ofString "startpos", .int 0 t0), (Str.ofString "heap", .ref H)]) := F9
  k_steps
  refine ⟨?_⟩
  rename_i L' _ _ _ _ a' x' hx' hD' h' F' N'
  refine my_while (σ := List Value × List Item × Nat × Tok) (fun c => (H, listOf c.1.toArray n) :: rest)
    (fun c => [(Str.ofString "pos", .int c.2.2.1 c.2.2.2), (Str.ofString "startpos", .int 0 t0), (Str.ofString "heap", .ref H), (Str.ofString "newitem", .ref a')])
    (fun c => DatAll L9 c.1 (c.2.1.map itemD) ∧ c.2.1.length = its.length ∧ c.2.2.1 < its.length ∧ ∃ f, c.2.2.1 ≤ f ∧ sd f x' c.2.1 c.2.2.1 = siftdown its pos)
    (fun c => c.2.2.1) (vs, its, pos, t1) F' N' (fun _ h => h) ?_ ?_ (by with_unfolding_all passes_own) ?_
  · intro p hp; simp only [List.mem_cons, List.not_mem_nil, or_false] at hp
    rcases hp with rfl | rfl | rfl | rfl <;> rfl
  · refine ⟨hd, rfl, hp, pos, Nat.le_refl _, ?_⟩
    unfold siftdown
    have hx2 : its[pos]? = some x' := hx'
    rw [List.getD_eq_getElem?_getD, hx2]; rfl
  · rintro ⟨vs1, l1, p1, t1⟩ u h1 tk1 ⟨hd1, hl1, hp1, f, hf, hs⟩ F1 N1
    clear F' N'
    dsimp only at hd1 hl1 hp1 hf hs N1
    dsimp only [kstB] at F1
    have hl0 : 0 < its.length := Nat.lt_of_le_of_lt (Nat.zero_le _) hp
    k_steps
    · rename DatAll L9 _ _ => hd2
      rename ilt _ _ = true => hlt
      rename l1[_]? = some _ => hx2
      obtain ⟨g, hg, e⟩ := sd_go (by omega) hf hx2 hlt
      refine my_end (vs1.set p1 _, l1.set p1 _, (p1 - 1) / 2, _) (by assumption) (by assumption) (by kst_all) ⟨hd2, by simpa using hl1, by dsimp only; omega, g, hg, e.symm.trans hs⟩ ?_
      dsimp only
      omega
    · rename DatAll L9 _ _ => hd2
      rename ilt _ _ = false => hlt
      rename l1[_]? = some _ => hx2
      have e := sd_stop (by omega) hf hx2 hlt
      exact hret _ _ _ _ (by assumption) (by assumption) ⟨rfl, _, rfl, by rw [← hs, e]; exact hd2⟩
    · rename DatAll L9 _ _ => hd2
      have e0 : p1 = 0 := by omega
      subst e0
      exact hret _ _ _ _ (by assumption) (by assumption) ⟨rfl, _, rfl, by rw [← hs, sd_zero]; exact hd2⟩
end Mine
end

section
open PySem PySem.W PyProof.Rows
set_option maxRecDepth 100000
set_option maxHeartbeats 1000000
namespace Mine
local macro_rules | `(tactic| walk_at "subscriptTail") => `(tactic| (k_here; (with_reducible show wpAny _ _ (subscriptTail _ _ (Value.ref _) (Value.int _ _)) _ _ _); (with_unfolding_all refine' my_sub ?k1 ?k2 ?k3 ?k4 ?k5 ?k6 ?_ ?k7; (case k1 => k_asm); (case k2 => k_mem); (case k3 => with_reducible assumption); (case k4 => omega); (case k5 => omega); (case k6 => omega); (case k7 => with_unfolding_all rfl); k_whole); intro a' x' hx' hD'; (try dsimp only)))
local macro_rules | `(tactic| walk_at "compareOp Lt ref ref") => `(tactic| (k_here; (with_reducible show wpAny _ _ (compareOp CmpOp.Lt (Value.ref _) (Value.ref _)) _ _ _); (refine' my_lt ?k1 ?k2 ?k3 ?k4 ?k5 ?_; (case k1 => k_asm); (case k3 => with_reducible assumption); (case k4 => with_reducible assumption); (case k2 => exact tail_sub (by assumption)); (case k5 => ((try simp only [units_in1, units_deeper, Around.mark_units, units_caller]); (try dsimp only [ktrTop]); omega)); k_whole); (try dsimp only)))
local macro_rules | `(tactic| walk_at "exec While Compare cons nil") => `(tactic| (refine Hold.h ?_))
local macro_rules | `(tactic| k_all) => `(tactic| assumption)
local macro_rules | `(tactic| walk_at "setItem ref int ref") => `(tactic| (k_here; (with_unfolding_all refine' my_set ?k1 ?k2 ?k3 ?k4 ?k5 ?k6 ?k7 ?k8 ?_; (case k1 => k_asm); (case k2 => k_asm); (case k3 => k_upd); (case k4 => with_reducible assumption); (case k5 => with_reducible assumption); (case k6 => omega); (case k7 => omega); (case k8 => omega); k_whole); intro h' F' N' hd'; (try dsimp only); (try k_sweep)))
local macro_rules | `(tactic| walk_at "binaryOp RShift int int") => `(tactic| (refine my_shr (by omega) ?_; (try dsimp only)))

local macro_rules | `(tactic| walk_at "MyPost") => `(tactic| (dsimp only [MyPost]))


local macro_rules | `(tactic| walk_at "call builtin:len") => `(tactic| (k_here; (with_reducible show wpAny _ _ (call (Value.builtin "len") [Value.ref _]) _ _ _); k_dflt (refine' my_len ?k1 ?k2 ?k3 ?k4 ?_; (case k1 => k_asm); (case k2 => k_mem); (case k3 => with_reducible assumption); (case k4 => omega); k_whole); (try dsimp only)))
local macro_rules | `(tactic| walk_at "call ref") => `(tactic| (k_here; k_dflt (refine' spec_use (siftdown_spec _ _ _ _ _ _ _ _ _ _ ?a1 ?a9 ?a2 ?a3 ?a4) ?k1 ?k2 ?k3 ?k4 ?k5 ?k6 ?k7 ?k8 ?_; (case k1 => k_asm); (case k2 => k_asm); (case k3 => k_asm); (case k4 => k_asm); (case k5 => k_asm); (case k6 => exact rfl); (case a1 => assumption); (case a9 => assumption); (case a2 => with_reducible assumption); (case a3 => (simp only [List.length_set]; omega)); (case a4 => (simp only [List.length_set]; omega)); (case k7 => (dsimp only [ktrTop]; omega)); (case k8 => (dsimp only [ktrTop]; omega)); k_whole); intro r' h' tk' news' F' N' hP'; (obtain ⟨hr', vs', hn', hd'⟩ := hP'); subst hr'; subst hn'; (try dsimp only); (try k_sweep)))
set_option maxHeartbeats 8000000 in
theorem siftup_spec (w : World) (H : Addr) (vs : List Value) (n : Nat) (rest L9 : Led) (its : List Item) (t0 : Tok)
    (ho : ∀ p ∈ rest, p.1 ≠ H) (hs9 : ∀ p ∈ L9, p ∈ rest) (hd : DatAll L9 vs (its.map itemD)) (hp : 0 < its.length) (hz : its.length ≤ 1000) :
    Spec w 69 6 120 [.ref H, .int 0 t0] ((H, listOf vs.toArray n) :: rest)
      (fun r news' => r = .none ∧ ∃ vs', news' = (H, listOf vs'.toArray n) :: rest ∧ DatAll L9 vs' ((siftup its).map itemD)) := by
  w_top off
  unfold Spec PR
  k_fill
  intro p loose mean mg mb dp un gd cn cs a ccd cl outer A₀ base h₀ L m s Q E B F X N T hk hdp hun hret
  refine wpAny_call ?_
  k_dflt ktr_enter
  rename Fr _ _ _ (fun _ => _) => F9
  replace F9 : Fr _ _ _ (fm [(Str.ofString "pos", .int 0 t0), (Str.ofString "heap", .ref H)]) := F9
  k_steps
  refine ⟨?_⟩
  rename its[_]? = some _ => hx
  rename DatIn L9 _ _ => hD
  rename Item => x
  rename_i F' N'
  refine' my_while (σ := List Value × List Item × Nat × Nat × Tok × Tok × Tok × Tok × Addr) (fun c => (H, listOf c.1.toArray n) :: rest)
    (fun c => [(Str.ofString "pos", .int c.2.2.1 c.2.2.2.2.1), (Str.ofString "childpos", .int c.2.2.2.1 c.2.2.2.2.2.1), (Str.ofString "startpos", .int 0 c.2.2.2.2.2.2.1), (Str.ofString "endpos", .int its.length c.2.2.2.2.2.2.2.1), (Str.ofString "heap", .ref H), (Str.ofString "newitem", .ref c.2.2.2.2.2.2.2.2)])
    (fun c => DatAll L9 c.1 (c.2.1.map itemD) ∧ DatIn L9 (.ref c.2.2.2.2.2.2.2.2) (itemD x) ∧ c.2.1.length = its.length ∧ c.2.2.1 < its.length ∧ c.2.2.2.1 = 2 * c.2.2.1 + 1 ∧ ∃ f, its.length ≤ f + c.2.2.1 ∧ su f x c.2.1 c.2.2.1 = siftup its)
    (fun c => its.length - c.2.2.1) (vs, its, 0, 1, _, _, _, _, _) F' N' (fun _ h => h) ?hk ?hp ?hE ?turn
  case hk => kst_all
  case hE => with_unfolding_all passes_own
  case hp =>
    refine ⟨hd, hD, rfl, hp, rfl, its.length, Nat.le_refl _, ?_⟩
    unfold siftup
    rw [getD_some' (show its[0]? = some x from hx)]
  case turn =>
    rintro ⟨vs1, l1, p1, c1, t1, t2, t3, t4, a1⟩ u h1 tk1 ⟨hd1, hD1, hl1, hp1, hc1, f, hf, hs⟩ F1 N1
    clear F' N'
    dsimp only at hd1 hD1 hl1 hp1 hc1 hf hs N1
    subst hc1
    dsimp only [kstB] at F1
    k_steps
    · rename DatAll L9 _ _ => hd2
      rename ilt _ _ = true => hlt
      rename l1[_]? = some _ => hy
      obtain ⟨g, hg, e⟩ := su_go (f := f) (p := p1) (by omega) (by omega) (pick_left (c := 2 * p1 + 1) (by omega) (by assumption) (by assumption) hlt) hy
      refine' my_end (vs1.set p1 _, l1.set p1 _, 2 * p1 + 1, 2 * (2 * p1 + 1) + 1, _, _, _, _, _) ?hF ?hN ?hk ⟨hd2, hD1, by simpa using hl1, by dsimp only; omega, rfl, g, by dsimp only; omega, e.symm.trans hs⟩ ?hm
      case hF => assumption
      case hN => assumption
      case hk => kst_all
      case hm => dsimp only; omega
    · rename DatAll L9 _ _ => hd2
      rename ilt _ _ = false => hlt
      rename l1[_]? = some _ => hy
      obtain ⟨g, hg, e⟩ := su_go (f := f) (p := p1) (by omega) (by omega) (pick_right (c := 2 * p1 + 1) (by omega) (by assumption) (by assumption) hlt) hy
      refine' my_end (vs1.set p1 _, l1.set p1 _, 2 * p1 + 1 + 1, 2 * (2 * p1 + 1 + 1) + 1, _, _, _, _, _) ?hF ?hN ?hk ⟨hd2, hD1, by simpa using hl1, by dsimp only; omega, rfl, g, by dsimp only; omega, e.symm.trans hs⟩ ?hm
      case hF => assumption
      case hN => assumption
      case hk => kst_all
      case hm => dsimp only; omega
    · rename DatAll L9 _ _ => hd2
      rename l1[_]? = some _ => hy
      obtain ⟨g, hg, e⟩ := su_go (f := f) (p := p1) (by omega) (by omega) (pick_end (c := 2 * p1 + 1) (by omega)) hy
      refine' my_end (vs1.set p1 _, l1.set p1 _, 2 * p1 + 1, 2 * (2 * p1 + 1) + 1, _, _, _, _, _) ?hF ?hN ?hk ⟨hd2, hD1, by simpa using hl1, by dsimp only; omega, rfl, g, by dsimp only; omega, e.symm.trans hs⟩ ?hm
      case hF => assumption
      case hN => assumption
      case hk => kst_all
      case hm => dsimp only; omega
    · rename DatAll L9 _ _ => hd2
      refine hret _ _ _ _ (by assumption) (by assumption) ⟨rfl, _, rfl, ?_⟩
      have e : siftup its = siftdown (l1.set p1 x) p1 := by
        rw [← hs, su_stop (by omega)]
        unfold siftdown
        rw [getD_some' (x := x)]
        rw [List.getElem?_set_self (by omega)]
      rw [e]; exact hd2
end Mine
end

section
open PySem PySem.W PyProof.Rows
set_option maxRecDepth 100000
set_option maxHeartbeats 1000000
namespace Mine
local macro_rules | `(tactic| walk_at "subscriptTail") => `(tactic| (k_here; (with_reducible show wpAny _ _ (subscriptTail _ _ (Value.ref _) (Value.int _ _)) _ _ _); (with_unfolding_all refine' my_sub ?k1 ?k2 ?k3 ?k4 ?k5 ?k6 ?_ ?k7; (case k1 => k_asm); (case k2 => k_mem); (case k3 => with_reducible assumption); (case k4 => omega); (case k5 => (first | omega | (simp only [List.length_set, List.length_append, List.length_singleton, List.length_dropLast] at *; omega))); (case k6 => (first | omega | (simp only [List.length_set, List.length_append, List.length_singleton, List.length_dropLast] at *; omega))); (case k7 => with_unfolding_all rfl); k_whole); intro a' x' hx' hD'; (try dsimp only)))
local macro_rules | `(tactic| walk_at "compareOp Lt ref ref") => `(tactic| (k_here; (with_reducible show wpAny _ _ (compareOp CmpOp.Lt (Value.ref _) (Value.ref _)) _ _ _); (refine' my_lt ?k1 ?k2 ?k3 ?k4 ?k5 ?_; (case k1 => k_asm); (case k3 => with_reducible assumption); (case k4 => with_reducible assumption); (case k2 => exact tail_sub (by assumption)); (case k5 => ((try simp only [units_in1, units_deeper, Around.mark_units, units_caller]); (try dsimp only [ktrTop]); omega)); k_whole); (try dsimp only)))
local macro_rules | `(tactic| walk_at "exec While Compare cons nil") => `(tactic| (refine Hold.h ?_))
local macro_rules | `(tactic| k_all) => `(tactic| assumption)
local macro_rules | `(tactic| walk_at "setItem ref int ref") => `(tactic| (k_here; (with_unfolding_all refine' my_set ?k1 ?k2 ?k3 ?k4 ?k5 ?k6 ?k7 ?k8 ?_; (case k1 => k_asm); (case k2 => k_asm); (case k3 => k_upd); (case k4 => with_reducible assumption); (case k5 => with_reducible assumption); (case k6 => omega); (case k7 => (first | omega | (simp only [List.length_set, List.length_append, List.length_singleton, List.length_dropLast] at *; omega))); (case k8 => (first | omega | (simp only [List.length_set, List.length_append, List.length_singleton, List.length_dropLast] at *; omega))); k_whole); intro h' F' N' hd'; (try dsimp only); (try k_sweep)))
local macro_rules | `(tactic| walk_at "binaryOp RShift int int") => `(tactic| (refine my_shr (by omega) ?_; (try dsimp only)))

local macro_rules | `(tactic| walk_at "MyPost") => `(tactic| (dsimp only [MyPost]))


local macro_rules | `(tactic| walk_at "call builtin:len") => `(tactic| (k_here; (with_reducible show wpAny _ _ (call (Value.builtin "len") [Value.ref _]) _ _ _); k_dflt (refine' my_len ?k1 ?k2 ?k3 ?k4 ?_; (case k1 => k_asm); (case k2 => k_mem); (case k3 => with_reducible assumption); (case k4 => (first | omega | (simp only [List.length_set, List.length_append, List.length_singleton, List.length_dropLast] at *; omega))); k_whole); (try dsimp only)))
local macro_rules | `(tactic| walk_at "call ref") => `(tactic| (k_here; k_dflt (refine' spec_use (siftdown_spec _ _ _ _ _ _ _ _ _ _ ?a1 ?a9 ?a2 ?a3 ?a4) ?k1 ?k2 ?k3 ?k4 ?k5 ?k6 ?k7 ?k8 ?_; (case k1 => k_asm); (case k2 => k_asm); (case k3 => k_asm); (case k4 => k_asm); (case k5 => k_asm); (case k6 => exact rfl); (case a1 => assumption); (case a9 => assumption); (case a2 => with_reducible assumption); (case a3 => (first | omega | (simp only [List.length_set, List.length_append, List.length_singleton, List.length_dropLast] at *; omega))); (case a4 => (first | omega | (simp only [List.length_set, List.length_append, List.length_singleton, List.length_dropLast] at *; omega))); (case k7 => (dsimp only [ktrTop]; omega)); (case k8 => (dsimp only [ktrTop]; omega)); k_whole); intro r' h' tk' news' F' N' hP'; (obtain ⟨hr', vs', hn', hd'⟩ := hP'); subst hr'; subst hn'; (try dsimp only); (try k_sweep)))
local macro_rules | `(tactic| walk_at "call ref") => `(tactic| (k_here; k_dflt (refine' spec_use (siftup_spec _ _ _ _ _ _ _ _ ?a1 ?a9 ?a2 ?a3 ?a4) ?k1 ?k2 ?k3 ?k4 ?k5 ?k6 ?k7 ?k8 ?_; (case k1 => k_asm); (case k2 => k_asm); (case k3 => k_asm); (case k4 => k_asm); (case k5 => k_asm); (case k6 => exact rfl); (case a1 => assumption); (case a9 => assumption); (case a2 => with_reducible assumption); (case a3 => (first | omega | (simp only [List.length_set, List.length_append, List.length_singleton, List.length_dropLast] at *; omega))); (case a4 => (first | omega | (simp only [List.length_set, List.length_append, List.length_singleton, List.length_dropLast] at *; omega))); (case k7 => (dsimp only [ktrTop]; omega)); (case k8 => (dsimp only [ktrTop]; omega)); k_whole); intro r' h' tk' news' F' N' hP'; (obtain ⟨hr', vs', hn', hd'⟩ := hP'); subst hr'; subst hn'; (try dsimp only); (try k_sweep)))
local macro_rules | `(tactic| walk_at "call builtin:list.append") => `(tactic| (k_here; (with_reducible show wpAny _ _ (call (Value.builtin _) [Value.ref _, _]) _ _ _); k_dflt (refine' my_append ?k1 ?k2 ?k3 ?k4 ?k5 ?k6 ?_; (case k1 => k_asm); (case k2 => k_asm); (case k3 => k_upd); (case k4 => with_reducible assumption); (case k5 => with_reducible assumption); (case k6 => omega); k_whole); intro h' F' N' hd'; (try dsimp only); (try k_sweep)))
local macro_rules | `(tactic| walk_at "call builtin:list.pop") => `(tactic| (k_here; (with_reducible show wpAny _ _ (call (Value.builtin _) [Value.ref _]) _ _ _); k_dflt (refine' my_pop ?k1 ?k2 ?k3 ?k4 ?k5 ?k6 ?_; (case k1 => k_asm); (case k2 => k_asm); (case k3 => k_upd); (case k4 => with_reducible assumption); (case k5 => assumption); (case k6 => omega); k_whole); intro h' a' x' F' N' hx' hD' hd'; (try dsimp only); (try k_sweep)))
local macro_rules | `(tactic| walk_at "truthy ref") => `(tactic| (k_here; k_dflt (refine' my_truthy ?k1 ?k2 ?k3 ?k4 ?_; (case k1 => k_asm); (case k2 => k_mem); (case k3 => with_reducible assumption); (case k4 => (first | omega | (simp only [List.length_dropLast]; omega))); k_whole); (try dsimp only)))
local macro_rules | `(tactic| walk_at "binaryOp Sub int int") => `(tactic| (with_reducible refine my_dec ?_; (try dsimp only)))
set_option maxHeartbeats 8000000 in
theorem heappush_spec (w : World) (H : Addr) (vs : List Value) (n : Nat) (rest L9 : Led) (its : List Item) (x : Addr) (it : Item)
    (ho : ∀ p ∈ rest, p.1 ≠ H) (hs9 : ∀ p ∈ L9, p ∈ rest) (hd : DatAll L9 vs (its.map itemD)) (hx : DatIn L9 (.ref x) (itemD it)) (hz : its.length ≤ 900) :
    Spec w 48 6 120 [.ref H, .ref x] ((H, listOf vs.toArray n) :: rest)
      (fun r news' => r = .none ∧ ∃ vs', news' = (H, listOf vs'.toArray (n + 1)) :: rest ∧ DatAll L9 vs' ((push its it).map itemD)) := by
  w_top off
  unfold Spec PR
  k_fill
  intro p loose mean mg mb dp un gd cn cs a ccd cl outer A₀ base h₀ L m s Q E B F X N T hk hdp hun hret
  refine wpAny_call ?_
  k_dflt ktr_enter
  rename Fr _ _ _ (fun _ => _) => F9
  replace F9 : Fr _ _ _ (fm [(Str.ofString "item", .ref x), (Str.ofString "heap", .ref H)]) := F9
  k_steps
  rename DatAll L9 _ _ => hd2
  exact hret _ _ _ _ (by assumption) (by assumption) ⟨rfl, _, rfl, hd2⟩
set_option maxHeartbeats 8000000 in
theorem heappop_spec (w : World) (H : Addr) (vs : List Value) (n : Nat) (rest L9 : Led) (its : List Item)
    (ho : ∀ p ∈ rest, p.1 ≠ H) (hs9 : ∀ p ∈ L9, p ∈ rest) (hd : DatAll L9 vs (its.map itemD)) (hp : its ≠ []) (hz : its.length ≤ 900) :
    Spec w 55 9 180 [.ref H] ((H, listOf vs.toArray n) :: rest)
      (fun r news' => ∃ x vs', r = .ref x ∧ DatIn L9 (.ref x) (itemD (pop its).1) ∧ news' = (H, listOf vs'.toArray (n + 1)) :: rest ∧ DatAll L9 vs' ((pop its).2.map itemD)) := by
  w_top off
  unfold Spec PR
  k_fill
  intro p loose mean mg mb dp un gd cn cs a ccd cl outer A₀ base h₀ L m s Q E B F X N T hk hdp hun hret
  have hl0 : 0 < its.length := List.length_pos_iff.mpr hp
  refine wpAny_call ?_
  k_dflt ktr_enter
  rename Fr _ _ _ (fun _ => _) => F9
  replace F9 : Fr _ _ _ (fm [(Str.ofString "heap", .ref H)]) := F9
  k_steps
  · rename DatAll L9 _ _ => hd2
    rename DatIn L9 _ _ => hD2
    rename its.dropLast[_]? = some _ => hy
    rename its.getLast? = some _ => hx
    have e := pop_two (by assumption) hx (show its.dropLast[0]? = _ from hy)
    rw [e] at hret
    exact hret _ _ _ _ (by assumption) (by assumption) ⟨_, _, rfl, hD2, rfl, hd2⟩
  · rename DatAll L9 _ _ => hd2
    rename DatIn L9 _ _ => hD2
    rename its.getLast? = some _ => hx
    obtain ⟨e, e2⟩ := pop_one (by assumption) hx
    rw [e2] at hd2
    rw [e] at hret
    exact hret _ _ _ _ (by assumption) (by assumption) ⟨_, _, rfl, hD2, rfl, hd2⟩
end Mine
end

section
open PySem PySem.W PyProof.Rows
set_option maxRecDepth 100000
set_option maxHeartbeats 1000000
namespace Mine
/-- the same, and the count of tokens behind it -/
def SpecT (w : World) (f : Addr) (dn cu : Nat) (args : List Value) (news : Led) (Post : Value → Led → Nat → Prop) : Prop :=
  ∀ (p : Program) (loose : List Str) (mean : ExcName → Option Value) (mg mb : Str → Option Value) (dp un : Nat) (gd : Option (List Code)) (cn : Str) (cs : Scope) (a : Addr) (ccd : Value) (cl : List (Str × Addr)) (outer : List Env) (A₀ : Around) (base h₀ : Heap) (L : Addr) (m : Str → Option Value) (s : Shared) (Q E : Value → Shared → Prop),
    Below A₀ base outer h₀ → Fr h₀ L s.heap m → (hd.heap_39 w.params).In h₀ → News h₀ L s.heap news → Top p loose mean mg mb h₀ → cs.kind = .function → dp + dn < recursionLimit → un + cu < cLine →
    (∀ r h' tk' news', Fr h₀ L h' m → News h₀ L h' news' → Post r news' tk' → Q r { s with heap := h', toks := tk' }) →
    wpAny (model PR w) (ktrTop dp un gd cn cs L a ccd cl outer) (call (.ref f) args) Q E s
theorem specT_use {w : World} {f : Addr} {dn cu : Nat} {args : List Value} {news : Led} {Post : Value → Led → Nat → Prop} {p : Program} {loose : List Str} {mean : ExcName → Option Value} {mg mb : Str → Option Value} {dp un : Nat} {gd : Option (List Code)} {cn : Str} {cs : Scope} {a : Addr} {ccd : Value} {cl : List (Str × Addr)} {outer : List Env} {A₀ : Around} {base h₀ : Heap} {L : Addr} {m : Str → Option Value} {s : Shared} {Q E : Value → Shared → Prop}
    (S : SpecT w f dn cu args news Post) (B : Below A₀ base outer h₀) (F : Fr h₀ L s.heap m) (X : (hd.heap_39 w.params).In h₀) (N : News h₀ L s.heap news) (T : Top p loose mean mg mb h₀) (hk : cs.kind = .function) (hdp : dp + dn < recursionLimit) (hun : un + cu < cLine)
    (h : ∀ r h' tk' news', s.toks ≤ tk' → Fr h₀ L h' m → News h₀ L h' news' → Post r news' tk' → Q r { s with heap := h', toks := tk' }) :
    wpAny (model PR w) (ktrTop dp un gd cn cs L a ccd cl outer) (call (.ref f) args) Q E s :=
  any_freeQ (S _ _ _ _ _ _ _ _ _ _ _ _ _ _ _ _ _ _ _ _ _ _ B F X N T hk hdp hun fun r h' tk' news' F' N' hp hle => h r h' tk' news' hle F' N' hp)
theorem Spec.mono {w : World} {f : Addr} {dn cu : Nat} {args : List Value} {news : Led} {P P' : Value → Led → Prop} (S : Spec w f dn cu args news P) (h : ∀ r n, P r n → P' r n) : Spec w f dn cu args news P' := by
  intro p loose mean mg mb dp un gd cn cs a ccd cl outer A₀ base h₀ L m s Q E B F X N T hk hdp hun hret
  exact S _ _ _ _ _ _ _ _ _ _ _ _ _ _ _ _ _ _ _ _ _ _ B F X N T hk hdp hun fun r h' tk' news' F' N' hp => hret r h' tk' news' F' N' (h _ _ hp)
/-- a def that changes the list at H alone -/
def SpecH (w : World) (f : Addr) (dn cu : Nat) (args : List Value) (H : Addr) (o : Obj) (L9 : Led) (PO : Value → Obj → Prop) : Prop :=
  ∀ rest : Led, (∀ p ∈ rest, p.1 ≠ H) → (∀ p ∈ L9, p ∈ rest) → Spec w f dn cu args ((H, o) :: rest) (fun r news' => ∃ o', news' = (H, o') :: rest ∧ PO r o')
theorem spec_useH {w : World} {f : Addr} {dn cu : Nat} {args : List Value} {H : Addr} {o : Obj} {L9 news : Led} {g : Obj → Led} {PO : Value → Obj → Prop} {p : Program} {loose : List Str} {mean : ExcName → Option Value} {mg mb : Str → Option Value} {dp un : Nat} {gd : Option (List Code)} {cn : Str} {cs : Scope} {a : Addr} {ccd : Value} {cl : List (Str × Addr)} {outer : List Env} {A₀ : Around} {base h₀ : Heap} {L : Addr} {m : Str → Option Value} {s : Shared} {Q E : Value → Shared → Prop}
    (S : SpecH w f dn cu args H o L9 PO) (B : Below A₀ base outer h₀) (F : Fr h₀ L s.heap m) (X : (hd.heap_39 w.params).In h₀) (N : News h₀ L s.heap news) (U : UpdF H o news g) (hL : ∀ p ∈ L9, p ∈ news) (hne : ∀ p ∈ L9, p.1 ≠ H)
    (T : Top p loose mean mg mb h₀) (hk : cs.kind = .function) (hdp : dp + dn < recursionLimit) (hun : un + cu < cLine)
    (h : ∀ r h' tk' o', s.toks ≤ tk' → Fr h₀ L h' m → News h₀ L h' (g o') → PO r o' → Q r { s with heap := h', toks := tk' }) :
    wpAny (model PR w) (ktrTop dp un gd cn cs L a ccd cl outer) (call (.ref f) args) Q E s := by
  obtain ⟨pre, post, e0, hg, x1, x2⟩ := U.split
  subst e0
  have hsub : ∀ o', ∀ p ∈ (H, o') :: (pre ++ post), p ∈ pre ++ (H, o') :: post := fun o' p hp => by
    rcases List.mem_cons.mp hp with rfl | hp
    · exact List.mem_append_right _ (.head _)
    · exact (List.mem_append.mp hp).elim (List.mem_append_left _) fun h => List.mem_append_right _ (.tail _ h)
  refine any_freeQ (S (pre ++ post) (fun p hp => (List.mem_append.mp hp).elim (x1 p) (x2 p)) (fun p hp => ?_) _ _ _ _ _ _ _ _ _ _ _ _ _ _ _ _ _ _ _ _ _ _ B F X (fun p hp => N p (hsub o p hp)) T hk hdp hun ?_)
  · rcases List.mem_append.mp (hL p hp) with h | h
    · exact List.mem_append_left _ h
    · rcases List.mem_cons.mp h with rfl | h
      · exact absurd rfl (hne _ hp)
      · exact List.mem_append_right _ h
  · rintro r h' tk' news' F' N' ⟨o', rfl, hp⟩ hle
    refine h r h' tk' o' hle F' (fun p hp => ?_) hp
    rw [hg] at hp
    rcases List.mem_append.mp hp with hp | hp
    · exact N' p (.tail _ (List.mem_append_left _ hp))
    · rcases List.mem_cons.mp hp with rfl | hp
      · exact N' _ (.head _)
      · exact N' p (.tail _ (List.mem_append_right _ hp))
theorem heappopH (w : World) (H : Addr) (vs : List Value) (n : Nat) (L9 : Led) (its : List Item) (hd : DatAll L9 vs (its.map itemD)) (hp : 0 < its.length) (hz : its.length ≤ 900) :
    SpecH w 55 9 180 [.ref H] H (listOf vs.toArray n) L9 (fun r o' => ∃ x vs', r = .ref x ∧ DatIn L9 (.ref x) (itemD (pop its).1) ∧ o' = listOf vs'.toArray (n + 1) ∧ DatAll L9 vs' ((pop its).2.map itemD)) := fun rest ho hs9 =>
  (heappop_spec w H vs n rest L9 its ho hs9 hd (List.ne_nil_of_length_pos hp) hz).mono fun _ _ ⟨x, vs', h1, h2, h3, h4⟩ => ⟨_, h3, x, vs', h1, h2, rfl, h4⟩
theorem heappushH (w : World) (H : Addr) (vs : List Value) (n : Nat) (L9 : Led) (its : List Item) (x : Addr) (it : Item) (hd : DatAll L9 vs (its.map itemD)) (hx : DatIn L9 (.ref x) (itemD it)) (hz : its.length ≤ 900) :
    SpecH w 48 6 120 [.ref H, .ref x] H (listOf vs.toArray n) L9 (fun r o' => r = .none ∧ ∃ vs', o' = listOf vs'.toArray (n + 1) ∧ DatAll L9 vs' ((push its it).map itemD)) := fun rest ho hs9 =>
  (heappush_spec w H vs n rest L9 its x it ho hs9 hd hx hz).mono fun _ _ ⟨h1, vs', h3, h4⟩ => ⟨_, h3, h1, vs', rfl, h4⟩


theorem push_use {w : World} {H z y : Addr} {vs vs' : List Value} {n : Nat} {its : List Item} {i : Int} {t : Tok} {r : List Int} {add news : Led} {g : Obj → Led} {p : Program} {loose : List Str} {mean : ExcName → Option Value} {mg mb : Str → Option Value} {dp un : Nat} {gd : Option (List Code)} {cn : Str} {cs : Scope} {a : Addr} {ccd : Value} {cl : List (Str × Addr)} {outer : List Env} {A₀ : Around} {base h₀ : Heap} {L : Addr} {m : Str → Option Value} {s : Shared} {Q E : Value → Shared → Prop}
    (B : Below A₀ base outer h₀) (F : Fr h₀ L s.heap m) (X : (hd.heap_39 w.params).In h₀) (N : News h₀ L s.heap news) (U : UpdF H (listOf vs.toArray n) news g) (m1 : (z, tupO [.int i t, .ref y]) ∈ news) (m2 : (y, tupO vs') ∈ news) (hi : IntsAre vs' r) (hd : DatAll add vs (its.map itemD))
    (hz : its.length ≤ 900) (hL : ∀ p ∈ add, p ∈ news) (hne : ∀ p ∈ (z, tupO [.int i t, .ref y]) :: (y, tupO vs') :: add, p.1 ≠ H)
    (T : Top p loose mean mg mb h₀) (hk : cs.kind = .function) (hdp : dp + 6 < recursionLimit) (hun : un + 120 < cLine)
    (h : ∀ h' tk' vs2, s.toks ≤ tk' → Fr h₀ L h' m → News h₀ L h' (g (listOf vs2.toArray (n + 1))) → DatAll ((z, tupO [.int i t, .ref y]) :: (y, tupO vs') :: add) vs2 ((push its (i, r)).map itemD) → Q .none { s with heap := h', toks := tk' }) :
    wpAny (model PR w) (ktrTop dp un gd cn cs L a ccd cl outer) (call (.ref 48) [.ref H, .ref z]) Q E s := by
  have hd2 : DatAll ((z, tupO [.int i t, .ref y]) :: (y, tupO vs') :: add) vs (its.map itemD) := hd.mono fun p hp => .tail _ (.tail _ hp)
  have hx2 : DatIn ((z, tupO [.int i t, .ref y]) :: (y, tupO vs') :: add) (.ref z) (itemD (i, r)) :=
    .tuple (.head _) (.cons (.int i t) (.cons (.tuple (.tail _ (.head _)) (row_all hi)) .nil))
  refine spec_useH (heappushH w H vs n _ its z (i, r) hd2 hx2 hz) B F X N U (fun p hp => ?_) hne T hk hdp hun ?_
  · rcases List.mem_cons.mp hp with rfl | hp
    · exact m1
    · rcases List.mem_cons.mp hp with rfl | hp
      · exact m2
      · exact hL p hp
  · rintro r' h' tk' o' hle F' N' ⟨rfl, vs2, rfl, hd'⟩
    exact h h' tk' vs2 hle F' N' hd'

structure FS where
  vs : List Value
  n : Nat
  l : List Item
  add : Led
/-- what holds between the pieces -/
structure FInv (T : Nat) (len : Int) (x : Item) (l0 : List Item) (add0 news0 : Led) (H D lp : Addr) (i : Nat) (c : FS) : Prop where
  tok : TokL T c.add
  dv : DatAll c.add c.vs (c.l.map itemD)
  sub : ∀ p ∈ add0, p ∈ c.add
  oH : ∀ p ∈ c.add, p.1 ≠ H
  oD : ∀ p ∈ c.add, p.1 ≠ D
  oL : ∀ p ∈ c.add, p.1 ≠ lp
  oN : ∀ q ∈ news0, ∀ p ∈ c.add, q.1 < p.1
  b1 : c.l.length ≤ l0.length + i
  b2 : ∀ K, (∀ it ∈ l0, it.2.length ≤ K) → x.2.length + 1 ≤ K → ∀ it ∈ c.l, it.2.length ≤ K
  eq : c.l = ([2, 3].take i).foldl (step len x) l0
structure RS where
  vs : List Value
  n : Nat
  l : List Item
  fs : List Value
  k : Nat
  F : List (List Int)
  add : Led
  f : Nat
/-- what holds between the turns of the heap's loop -/
structure RInv (len : Int) (R : List (List Int)) (news0 : Led) (H D : Addr) (c : RS) (tk : Nat) : Prop where
  pos : 0 < tk
  tok : TokL tk c.add
  dv : DatAll c.add c.vs (c.l.map itemD)
  df : DatAll c.add c.fs (c.F.map rowD)
  oH : ∀ p ∈ c.add, p.1 ≠ H
  oD : ∀ p ∈ c.add, p.1 ≠ D
  oN : ∀ q ∈ news0, ∀ p ∈ c.add, q.1 < p.1
  b1 : c.l.length + c.f ≤ 70
  b2 : ∀ it ∈ c.l, it.2.length + c.f ≤ 70
  b3 : c.F.length + c.f ≤ 70
  eq : rows c.f len c.l c.F = some R

local macro_rules | `(tactic| k_all) => `(tactic| assumption)
local macro_rules | `(tactic| k_mem) => `(tactic| exact List.mem_append_left _ (by assumption))
local macro_rules | `(tactic| walk_at "exec While BoolOp cons nil") => `(tactic| (refine Hold.h ?_))
local macro_rules | `(tactic| walk_at "pyIter ref") => `(tactic| (refine Hold.h ?_))
local macro_rules | `(tactic| walk_at "FPost") => `(tactic| (dsimp only [FPost]))
local macro_rules | `(tactic| walk_at "execs cons") => `(tactic| ((with_reducible refine wpAny_execs_cons ?_); (try dsimp only)))
local macro_rules | `(tactic| walk_at "execs nil") => `(tactic| ((with_reducible refine wpAny_execs_nil ?_); (try dsimp only)))
local macro_rules | `(tactic| walk_at "exec For Name List cons nil") => `(tactic| (k_here; (rename Fr _ _ _ _ => lF'); (with_unfolding_all refine' For_T lF' ?k1 ?k2 ?_ ?k3; (case k1 => exact rfl); (case k2 => exact rfl); (case k3 => passes_own); k_whole); (try dsimp only)))
local macro_rules | `(tactic| walk_at "TPost") => `(tactic| (dsimp only [TPost]))
local macro_rules | `(tactic| walk_at "MyPost") => `(tactic| (dsimp only [MyPost]))
local macro_rules | `(tactic| walk_at "compareOp NotEq ref ref") => `(tactic| first | (k_here; (with_reducible show wpAny _ _ (compareOp CmpOp.NotEq (Value.ref _) (Value.ref _)) _ _ _); k_dflt (refine' my_ne_nil ?k1 ?k2 ?k3 ?k4 item_ok ?k6 ?k7 ?_; (case k1 => k_asm); (case k2 => k_mem); (case k3 => with_reducible assumption); (case k6 => k_mem); (case k4 => kst_allIn); (case k7 => ((try simp only [units_in1, units_deeper, Around.mark_units, units_caller]); (try dsimp only [ktrTop]); omega)); k_whole); (try dsimp only)) | (refine Hold.h ?_))
local macro_rules | `(tactic| walk_at "call builtin:len") => `(tactic| first | (k_here; (with_reducible show wpAny _ _ (call (Value.builtin "len") [Value.ref _]) _ _ _); k_dflt (refine' my_len ?k1 ?k2 ?k3 ?k4 ?_; (case k1 => k_asm); (case k2 => k_mem); (case k3 => with_reducible assumption); (case k4 => omega); k_whole); (try dsimp only)) | (refine Hold.h ?_))
local macro_rules | `(tactic| walk_at "call builtin:list.append") => `(tactic| first | (k_here; (with_reducible show wpAny _ _ (call (Value.builtin _) [Value.ref _, _]) _ _ _); k_dflt (refine' my_append ?k1 ?k2 ?k3 ?k4 ?k5 ?k6 ?_; (case k1 => k_asm); (case k2 => k_asm); (case k3 => k_upd); (case k4 => with_reducible assumption); (case k5 => with_reducible assumption); (case k6 => omega); k_whole); intro h' F' N' hd'; (try dsimp only); (try k_sweep)) | (refine Hold.h ?_))
local macro_rules | `(tactic| walk_at "binaryOp Add ref ref") => `(tactic| first | (k_here; k_dflt (refine' my_taddT ?k1 ?k2 ?k3 ?k4 ?k5 ?kt ?ku ?k6 ?_; (case k1 => k_asm); (case k2 => k_asm); (case k3 => tb_lt); (case k5 => with_reducible assumption); (case kt => assumption); (case ku => assumption); (case k4 => kst_allIn); (case k6 => omega); k_whole); intro y' vs' h' F' N' l1 hi' ht'; (try k_lt l1); (try dsimp only); (try k_sweep)) | (refine Hold.h ?_))
local macro_rules | `(tactic| walk_at "call ref") => `(tactic| first | (k_here; k_dflt (refine' push_use ?k1 ?k2 ?k3 ?k4 ?k5 ?m1 ?m2 ?hi ?hd ?hz ?hL ?hne ?k6 ?k7 ?k8 ?k9 ?_; (case k1 => k_asm); (case k2 => k_asm); (case k3 => k_asm); (case k4 => k_asm); (case k5 => k_updF); (case k6 => k_asm); (case k7 => exact rfl); (case m1 => k_mem); (case m2 => k_mem); (case hi => with_reducible assumption); (case hd => with_reducible assumption); (case hz => (first | omega | (simp only [push_length, pop_length]; omega))); (case hL => kst_allIn); (case hne => k_all); (case k8 => (dsimp only [ktrTop]; omega)); (case k9 => (dsimp only [ktrTop]; omega)); k_whole); intro h' tk' vs' hle' F' N' hd'; (try dsimp only at hle'); (try dsimp only at N'); (try dsimp only); (try k_sweep)) | (refine Hold.h ?_))
local macro_rules | `(tactic| walk_at "call ref") => `(tactic| (k_here; k_dflt (refine' spec_useH (heappopH _ _ _ _ _ _ ?hd ?hp ?hz) ?k1 ?k2 ?k3 ?k4 ?k5 ?hL ?hne ?k6 ?k7 ?k8 ?k9 ?_; (case k1 => k_asm); (case k2 => k_asm); (case k3 => k_asm); (case k4 => k_asm); (case k5 => k_updF); (case k6 => k_asm); (case k7 => exact rfl); (case hd => with_reducible assumption); (case hp => assumption); (case hz => omega); (case hL => kst_allIn); (case hne => k_all); (case k8 => (dsimp only [ktrTop]; omega)); (case k9 => (dsimp only [ktrTop]; omega)); k_whole); intro r' h' tk' o' hle' F' N' hP'; (try dsimp only at hle'); (obtain ⟨x', vs', hr', hD', ho', hd'⟩ := hP'); subst hr'; subst ho'; (obtain ⟨t', b', n', hm', hb'⟩ := item_open hD'); (try dsimp only at N'); (try dsimp only); (try k_sweep)))

set_option maxHeartbeats 600000 in
theorem law_rows_spec (w : World) (len : Int) (t : Tok) (R : List (List Int)) (news0 : Led) (hR : rows 60 len [(0, [])] [] = some R) :
    SpecT w 97 14 400 [.int len t] news0 (fun r news' tk' => ∃ D vs n add, r = .ref D ∧ news' = (D, listOf vs.toArray n) :: (add ++ news0) ∧ DatAll add vs (R.map rowD) ∧ (∀ q ∈ news0, q.1 < D) ∧ (∀ q ∈ news0, ∀ p ∈ add, q.1 < p.1) ∧ TokL tk' add) := by
  w_top off
  unfold SpecT PR
  k_fill
  intro p loose mean mg mb dp un gd cn cs a ccd cl outer A₀ base h₀ L m s Q E B F X N T hk hdp hun hret
  refine wpAny_call ?_
  k_dflt ktr_enter
  rename Fr _ _ _ (fun _ => _) => F9
  replace F9 : Fr _ _ _ (fm [(Str.ofString "length", .int len t)]) := F9
  k_steps
  refine ⟨?_⟩
  rename_i D1 _ l1 D2 _ l2 H _ l3 _ D _ l4 _ F' N'
  have hH0 : ∀ p ∈ news0, p.1 ≠ H := fun p hp => Nat.ne_of_lt (Nat.lt_trans (l1 p hp) l3.2.1)
  have hD0 : ∀ p ∈ news0, p.1 ≠ D := fun p hp => Nat.ne_of_lt (Nat.lt_trans (l1 p hp) l4.2.2.1)
  have hHD : H < D := l4.1
  refine' my_whileT (σ := RS) (fun c => (D, listOf c.fs.toArray c.k) :: (H, listOf c.vs.toArray c.n) :: (c.add ++ news0))
    (fun c => [(Str.ofString "length", .int len t), (Str.ofString "heap", .ref H), (Str.ofString "found", .ref D)])
    (RInv len R news0 H D) (fun c => c.f) ⟨[.ref D2], 0, [(0, [])], [], 0, [], [(D2, tupO [.int 0 _, .ref D1]), (D1, tupO [])], 60⟩ F' N' (fun _ h => h) ?hk ?hp ?hE ?turn
  case hk => kst_all
  case hE => with_unfolding_all passes_own
  case hp =>
    refine ⟨Nat.succ_pos _, tok_cons tok_item (tok_cons tok_nil (fun _ h => nomatch h)), ?_, .nil, ?_, ?_, fun q hq => List.forall_mem_cons.mpr ⟨tb_ltOf l2.2 q hq, List.forall_mem_cons.mpr ⟨l1 q hq, List.forall_mem_nil _⟩⟩, by dsimp only; decide, by dsimp only; decide, by dsimp only; decide, hR⟩
    · exact .cons (.tuple (.head _) (.cons (.int 0 _) (.cons (.tuple (.tail _ (.head _)) .nil) .nil))) .nil
    · exact List.forall_mem_cons.mpr ⟨Nat.ne_of_lt l3.1, List.forall_mem_cons.mpr ⟨Nat.ne_of_lt l3.2.1, List.forall_mem_nil _⟩⟩
    · exact List.forall_mem_cons.mpr ⟨Nat.ne_of_lt l4.2.1, List.forall_mem_cons.mpr ⟨Nat.ne_of_lt l4.2.2.1, List.forall_mem_nil _⟩⟩
  case turn =>
    rintro ⟨vs1, n1, l1', fs1, k1, F1', add1, f1⟩ u h1 tk1 ⟨tpos, tokA, dv, df, oH, oD, oN, b1, b2, b3, eq⟩ F1 N1
    clear F' N'
    dsimp only at tokA dv df oH oD oN b1 b2 b3 eq N1
    obtain ⟨g1, rfl⟩ : ∃ g, f1 = g + 1 := by
      cases f1 with
      | zero => unfold rows at eq; cases eq
      | succ g => exact ⟨g, rfl⟩
    dsimp only [kstB] at F1
    have oH2 : ∀ p ∈ add1 ++ news0, p.1 ≠ H := fun p hp => (List.mem_append.mp hp).elim (oH p) (hH0 p)
    have oD2 : ∀ p ∈ add1 ++ news0, p.1 ≠ D := fun p hp => (List.mem_append.mp hp).elim (oD p) (hD0 p)
    have oHD : ∀ p ∈ (H, listOf vs1.toArray n1) :: (add1 ++ news0), p.1 ≠ D := List.forall_mem_cons.mpr ⟨Nat.ne_of_lt hHD, oD2⟩
    k_steps
    · refine ⟨?_⟩
      rename DatIn add1 _ (rowD _) => hb
      rename DatAll add1 _ (List.map itemD _) => hv
      rename DatAll add1 _ (List.map rowD _) => df2
      rename News _ _ _ _ => N2
      rename Fr _ _ _ (fun _ => _) => F2
      rename (_ < _ ∧ _ < _ ∧ _ < _ ∧ AllLt _ _) => hlp
      rename 0 < l1'.length => hpos
      rename tk1 + 1 + 1 + 1 ≤ _ => hle1
      rename_i tk9 x9 vs9 hD9 t9 b9 n9 hm9 _ _ _ hq _ lp _
      have hl0 : (pop l1').2.length + g1 + 2 ≤ 70 := by rw [pop_length]; omega
      obtain ⟨hx0, hx1⟩ := pop_all (P := fun it => it.2.length + (g1 + 1) ≤ 70) (by show 0 + (g1 + 1) ≤ 70; omega) b2
      refine' my_for (σ := FS) (l := lp) (fun c => (lp, listOf [Value.int 2 _, Value.int 3 _].toArray 0) :: (D, listOf (fs1 ++ [Value.ref b9]).toArray (k1 + 1)) :: (H, listOf c.vs.toArray c.n) :: (c.add ++ news0))
        (fun c => [(Str.ofString "length", .int len t), (Str.ofString "heap", .ref H), (Str.ofString "found", .ref D), (Str.ofString "here", .int (pop l1').1.1 t9), (Str.ofString "row", .ref b9)])
        (FInv (tk9 + 1 + 1 + 1 + 1) len (pop l1').1 (pop l1').2 add1 news0 H D lp) ⟨vs9, n1 + 1, (pop l1').2, add1⟩ rfl (.head _) F2 N2 ?hn (fun _ => .head _) ?hk ?hp ?turn ?done
      case hn => kst_allIn
      case hk => kst_all
      case hp => exact ⟨tokA.mono (by omega), hv, fun _ h => h, oH, oD, fun p hp => Nat.ne_of_lt (tb_ltOf hlp.2.2.2 p (List.mem_append_left _ hp)), oN, Nat.le_refl _, fun K h1 _ => h1, rfl⟩
      case turn =>
        rintro i v ⟨vs2, n2, l2, add2⟩ u2 h2 tk2 own hv2 hoff ⟨tok2, dv2, sub2, pH, pD, pL, pN, c1, c2, eq2⟩ F3 N3
        clear F2 N2
        dsimp only at tok2 dv2 sub2 pH pD pL pN c1 c2 eq2 N3 hoff
        obtain ⟨k, t2, hk2, rfl⟩ := ints_at (ns := [2, 3]) (.cons 2 _ (.cons 3 _ .nil)) hv2
        have htt : 0 < t2 ∧ t2 < tk9 + 1 + 1 + 1 + 1 := by
          have hmem := List.mem_of_getElem? hv2
          simp only [List.mem_cons, Value.int.injEq, List.not_mem_nil, or_false] at hmem
          rcases hmem with ⟨_, h⟩ | ⟨_, h⟩ <;> (subst h; refine ⟨?_, ?_⟩ <;> (show _ < _; first | omega | (simp only []; omega) | exact Nat.lt_succ_self _ | exact Nat.lt_succ_of_lt (Nat.lt_succ_self _) | exact Nat.succ_pos _))
        have hi2 : i < 2 := (List.getElem?_eq_some_iff.mp hk2).1
        dsimp only [kstB] at F3
        simp only [List.cons_append, List.append_assoc] at N3
        have hb2 := DatIn.mono sub2 hb
        have tH : ∀ p ∈ add2 ++ (news0 ++ own), p.1 ≠ H := by
          intro p hp
          simp only [List.mem_append] at hp
          rcases hp with hp | hp | hp
          · exact pH p hp
          · exact hH0 p hp
          · exact hoff p hp H (by simp)
        have subT : ∀ p ∈ add2 ++ news0, p ∈ add2 ++ (news0 ++ own) := by
          intro p hp
          simp only [List.mem_append] at hp ⊢
          exact hp.elim .inl fun h => .inr (.inl h)
        have hl2 : l2.length ≤ 100 := by omega
        have hx2 : (pop l1').1.2.length ≤ 1000 := by omega
        have htk := take_snoc hk2
        clear hv2 hv hD9 hm9
        k_steps
        · rename (_ < _ ∧ _ < _ ∧ _ < _ ∧ _ < _ ∧ AllLt _ _) => hz3
          rename (lp < _ ∧ D < _ ∧ H < _ ∧ AllLt _ _) => hy3
          rename DatAll (_ :: _ :: add2) _ _ => hd3
          rename TokO _ _ => hty
          have hz4 := tb_ltOf hz3.2.2.2.2
          have hy4 := tb_ltOf hy3.2.2.2
          refine' f_end (σ := FS) ⟨_, n2 + 1, push l2 ((pop l1').1.1 + k, (pop l1').1.2 ++ [k]), _⟩ ?F ?N ?hn ?ho ?hf ?hk ⟨tok_cons tok_item (tok_cons hty tok2), hd3, fun p hp => .tail _ (.tail _ (sub2 p hp)), ?_, ?_, ?_, ?_, ?_, ?_, ?_⟩
          case F => assumption
          case N => assumption
          case hk => kst_all
          case hn => exact List.forall_mem_cons.mpr ⟨by k_mem, List.forall_mem_cons.mpr ⟨by k_mem, List.forall_mem_cons.mpr ⟨by k_mem, List.forall_mem_cons.mpr ⟨by k_mem, List.forall_mem_cons.mpr ⟨by k_mem, fun p hp => .tail _ (.tail _ (.tail _ (.tail _ (.tail _ (subT p hp)))))⟩⟩⟩⟩⟩
          case ho => exact fun p hp => .tail _ (.tail _ (.tail _ (.tail _ (.tail _ (List.mem_append_right _ (List.mem_append_right _ hp))))))
          case hf =>
            intro p hp b hb'
            have hpz := hz4 p (List.mem_append_right _ (List.mem_append_right _ hp))
            have hpy := hy4 p (List.mem_append_right _ (List.mem_append_right _ hp))
            have hq := hoff p hp
            simp only [List.map_cons, List.map_append, List.cons_append, List.mem_cons, List.mem_append] at hb' hq
            rcases hb' with rfl | rfl | rfl | rfl | rfl | hb' | hb'
            · exact hq _ (.inl rfl)
            · exact hq _ (.inr (.inl rfl))
            · exact hq _ (.inr (.inr (.inl rfl)))
            · exact Nat.ne_of_lt hpz
            · exact Nat.ne_of_lt hpy
            · exact hq _ (.inr (.inr (.inr (.inl hb'))))
            · exact hq _ (.inr (.inr (.inr (.inr hb'))))
          · exact List.forall_mem_cons.mpr ⟨Nat.ne_of_gt hz3.2.2.2.1, List.forall_mem_cons.mpr ⟨Nat.ne_of_gt hy3.2.2.1, pH⟩⟩
          · exact List.forall_mem_cons.mpr ⟨Nat.ne_of_gt hz3.2.2.1, List.forall_mem_cons.mpr ⟨Nat.ne_of_gt hy3.2.1, pD⟩⟩
          · exact List.forall_mem_cons.mpr ⟨Nat.ne_of_gt hz3.2.1, List.forall_mem_cons.mpr ⟨Nat.ne_of_gt hy3.1, pL⟩⟩
          · exact fun q hq => List.forall_mem_cons.mpr ⟨hz4 q (List.mem_append_right _ (List.mem_append_left _ hq)), List.forall_mem_cons.mpr ⟨hy4 q (List.mem_append_right _ (List.mem_append_left _ hq)), pN q hq⟩⟩
          · dsimp only; rw [push_length]; omega
          · exact fun K h1 h3 => push_all (P := fun it => it.2.length ≤ K) (Nat.zero_le _) (by dsimp only; rw [List.length_append]; exact h3) (c2 K h1 h3)
          · rw [htk, List.foldl_append, ← eq2]
            show _ = step len (pop l1').1 l2 k
            unfold step
            rw [if_pos (by assumption)]
        · refine' f_end (σ := FS) ⟨vs2, n2, l2, add2⟩ ?F ?N ?hn ?ho hoff ?hk ⟨tok2, dv2, sub2, pH, pD, pL, pN, Nat.le_succ_of_le c1, c2, ?_⟩
          case F => assumption
          case N => assumption
          case hk => kst_all
          case hn => exact List.forall_mem_cons.mpr ⟨by k_mem, List.forall_mem_cons.mpr ⟨by k_mem, List.forall_mem_cons.mpr ⟨by k_mem, fun p hp => .tail _ (.tail _ (.tail _ (subT p hp)))⟩⟩⟩
          case ho => exact fun p hp => .tail _ (.tail _ (.tail _ (List.mem_append_right _ (List.mem_append_right _ hp))))
          · rw [htk, List.foldl_append, ← eq2]
            show _ = step len (pop l1').1 l2 k
            unfold step
            rw [if_neg (by assumption)]
      case done =>
        rintro ⟨vs2, n2, l2, add2⟩ u2 h2 tk2 ⟨tok2, dv2, sub2, pH, pD, pL, pN, c1, c2, eq2⟩ F3 N3
        clear F2 N2
        dsimp only at tok2 dv2 sub2 pH pD pL pN c1 c2 eq2 N3
        dsimp only [kstB] at F3
        have c3 : l2.length ≤ (pop l1').2.length + 2 := c1
        have eq3 : l2 = [2, 3].foldl (step len (pop l1').1) (pop l1').2 := eq2
        have er := rows_go (f := g1) (n := len) hpos (show F1'.length < 99 by omega)
        rw [if_pos hq, ← eq3, eq] at er
        intro hle2
        k_steps
        refine' t_end (σ := RS) ⟨vs2, n2, l2, (fs1 ++ [Value.ref b9]),(k1 + 1),(F1' ++ [(pop l1').1.2]), add2, g1⟩ ?F ?N ?hk ⟨by dsimp only at hle2 ⊢; omega, tok2.mono hle2, dv2, df2.mono sub2, pH, pD, pN, ?_, ?_, ?_, er.symm⟩ ?hm
        case F => assumption
        case N => exact fun p hp => (by assumption : News _ _ _ _) p (.tail _ hp)
        case hk => kst_all
        case hm => exact Nat.lt_succ_self _
        · dsimp only; omega
        · intro it hi
          have := c2 (70 - g1) (fun it hi => by have := hx1 it hi; omega) (by omega) it hi
          dsimp only
          omega
        · (try simp only [List.length_append, List.length_singleton]); (try dsimp only); omega
    · refine ⟨?_⟩
      rename DatIn add1 _ (rowD _) => hb
      rename DatAll add1 _ (List.map itemD _) => hv
      rename DatAll add1 _ (List.map rowD _) => df2
      rename News _ _ _ _ => N2
      rename Fr _ _ _ (fun _ => _) => F2
      rename (_ < _ ∧ _ < _ ∧ _ < _ ∧ AllLt _ _) => hlp
      rename 0 < l1'.length => hpos
      rename tk1 + 1 + 1 + 1 ≤ _ => hle1
      rename_i tk9 x9 vs9 hD9 t9 b9 n9 hm9 _ _ _ hq lp _
      have hl0 : (pop l1').2.length + g1 + 2 ≤ 70 := by rw [pop_length]; omega
      obtain ⟨hx0, hx1⟩ := pop_all (P := fun it => it.2.length + (g1 + 1) ≤ 70) (by show 0 + (g1 + 1) ≤ 70; omega) b2
      refine' my_for (σ := FS) (l := lp) (fun c => (lp, listOf [Value.int 2 _, Value.int 3 _].toArray 0) :: (D, listOf fs1.toArray k1) :: (H, listOf c.vs.toArray c.n) :: (c.add ++ news0))
        (fun c => [(Str.ofString "length", .int len t), (Str.ofString "heap", .ref H), (Str.ofString "found", .ref D), (Str.ofString "here", .int (pop l1').1.1 t9), (Str.ofString "row", .ref b9)])
        (FInv (tk9 + 1 + 1 + 1 + 1) len (pop l1').1 (pop l1').2 add1 news0 H D lp) ⟨vs9, n1 + 1, (pop l1').2, add1⟩ rfl (.head _) F2 N2 ?hn (fun _ => .head _) ?hk ?hp ?turn ?done
      case hn => kst_allIn
      case hk => kst_all
      case hp => exact ⟨tokA.mono (by omega), hv, fun _ h => h, oH, oD, fun p hp => Nat.ne_of_lt (tb_ltOf hlp.2.2.2 p (List.mem_append_left _ hp)), oN, Nat.le_refl _, fun K h1 _ => h1, rfl⟩
      case turn =>
        rintro i v ⟨vs2, n2, l2, add2⟩ u2 h2 tk2 own hv2 hoff ⟨tok2, dv2, sub2, pH, pD, pL, pN, c1, c2, eq2⟩ F3 N3
        clear F2 N2
        dsimp only at tok2 dv2 sub2 pH pD pL pN c1 c2 eq2 N3 hoff
        obtain ⟨k, t2, hk2, rfl⟩ := ints_at (ns := [2, 3]) (.cons 2 _ (.cons 3 _ .nil)) hv2
        have htt : 0 < t2 ∧ t2 < tk9 + 1 + 1 + 1 + 1 := by
          have hmem := List.mem_of_getElem? hv2
          simp only [List.mem_cons, Value.int.injEq, List.not_mem_nil, or_false] at hmem
          rcases hmem with ⟨_, h⟩ | ⟨_, h⟩ <;> (subst h; refine ⟨?_, ?_⟩ <;> (show _ < _; first | omega | (simp only []; omega) | exact Nat.lt_succ_self _ | exact Nat.lt_succ_of_lt (Nat.lt_succ_self _) | exact Nat.succ_pos _))
        have hi2 : i < 2 := (List.getElem?_eq_some_iff.mp hk2).1
        dsimp only [kstB] at F3
        simp only [List.cons_append, List.append_assoc] at N3
        have hb2 := DatIn.mono sub2 hb
        have tH : ∀ p ∈ add2 ++ (news0 ++ own), p.1 ≠ H := by
          intro p hp
          simp only [List.mem_append] at hp
          rcases hp with hp | hp | hp
          · exact pH p hp
          · exact hH0 p hp
          · exact hoff p hp H (by simp)
        have subT : ∀ p ∈ add2 ++ news0, p ∈ add2 ++ (news0 ++ own) := by
          intro p hp
          simp only [List.mem_append] at hp ⊢
          exact hp.elim .inl fun h => .inr (.inl h)
        have hl2 : l2.length ≤ 100 := by omega
        have hx2 : (pop l1').1.2.length ≤ 1000 := by omega
        have htk := take_snoc hk2
        clear hv2 hv hD9 hm9
        k_steps
        · rename (_ < _ ∧ _ < _ ∧ _ < _ ∧ _ < _ ∧ AllLt _ _) => hz3
          rename (lp < _ ∧ D < _ ∧ H < _ ∧ AllLt _ _) => hy3
          rename DatAll (_ :: _ :: add2) _ _ => hd3
          rename TokO _ _ => hty
          have hz4 := tb_ltOf hz3.2.2.2.2
          have hy4 := tb_ltOf hy3.2.2.2
          refine' f_end (σ := FS) ⟨_, n2 + 1, push l2 ((pop l1').1.1 + k, (pop l1').1.2 ++ [k]), _⟩ ?F ?N ?hn ?ho ?hf ?hk ⟨tok_cons tok_item (tok_cons hty tok2), hd3, fun p hp => .tail _ (.tail _ (sub2 p hp)), ?_, ?_, ?_, ?_, ?_, ?_, ?_⟩
          case F => assumption
          case N => assumption
          case hk => kst_all
          case hn => exact List.forall_mem_cons.mpr ⟨by k_mem, List.forall_mem_cons.mpr ⟨by k_mem, List.forall_mem_cons.mpr ⟨by k_mem, List.forall_mem_cons.mpr ⟨by k_mem, List.forall_mem_cons.mpr ⟨by k_mem, fun p hp => .tail _ (.tail _ (.tail _ (.tail _ (.tail _ (subT p hp)))))⟩⟩⟩⟩⟩
          case ho => exact fun p hp => .tail _ (.tail _ (.tail _ (.tail _ (.tail _ (List.mem_append_right _ (List.mem_append_right _ hp))))))
          case hf =>
            intro p hp b hb'
            have hpz := hz4 p (List.mem_append_right _ (List.mem_append_right _ hp))
            have hpy := hy4 p (List.mem_append_right _ (List.mem_append_right _ hp))
            have hq := hoff p hp
            simp only [List.map_cons, List.map_append, List.cons_append, List.mem_cons, List.mem_append] at hb' hq
            rcases hb' with rfl | rfl | rfl | rfl | rfl | hb' | hb'
            · exact hq _ (.inl rfl)
            · exact hq _ (.inr (.inl rfl))
            · exact hq _ (.inr (.inr (.inl rfl)))
            · exact Nat.ne_of_lt hpz
            · exact Nat.ne_of_lt hpy
            · exact hq _ (.inr (.inr (.inr (.inl hb'))))
            · exact hq _ (.inr (.inr (.inr (.inr hb'))))
          · exact List.forall_mem_cons.mpr ⟨Nat.ne_of_gt hz3.2.2.2.1, List.forall_mem_cons.mpr ⟨Nat.ne_of_gt hy3.2.2.1, pH⟩⟩
          · exact List.forall_mem_cons.mpr ⟨Nat.ne_of_gt hz3.2.2.1, List.forall_mem_cons.mpr ⟨Nat.ne_of_gt hy3.2.1, pD⟩⟩
          · exact List.forall_mem_cons.mpr ⟨Nat.ne_of_gt hz3.2.1, List.forall_mem_cons.mpr ⟨Nat.ne_of_gt hy3.1, pL⟩⟩
          · exact fun q hq => List.forall_mem_cons.mpr ⟨hz4 q (List.mem_append_right _ (List.mem_append_left _ hq)), List.forall_mem_cons.mpr ⟨hy4 q (List.mem_append_right _ (List.mem_append_left _ hq)), pN q hq⟩⟩
          · dsimp only; rw [push_length]; omega
          · exact fun K h1 h3 => push_all (P := fun it => it.2.length ≤ K) (Nat.zero_le _) (by dsimp only; rw [List.length_append]; exact h3) (c2 K h1 h3)
          · rw [htk, List.foldl_append, ← eq2]
            show _ = step len (pop l1').1 l2 k
            unfold step
            rw [if_pos (by assumption)]
        · refine' f_end (σ := FS) ⟨vs2, n2, l2, add2⟩ ?F ?N ?hn ?ho hoff ?hk ⟨tok2, dv2, sub2, pH, pD, pL, pN, Nat.le_succ_of_le c1, c2, ?_⟩
          case F => assumption
          case N => assumption
          case hk => kst_all
          case hn => exact List.forall_mem_cons.mpr ⟨by k_mem, List.forall_mem_cons.mpr ⟨by k_mem, List.forall_mem_cons.mpr ⟨by k_mem, fun p hp => .tail _ (.tail _ (.tail _ (subT p hp)))⟩⟩⟩
          case ho => exact fun p hp => .tail _ (.tail _ (.tail _ (List.mem_append_right _ (List.mem_append_right _ hp))))
          · rw [htk, List.foldl_append, ← eq2]
            show _ = step len (pop l1').1 l2 k
            unfold step
            rw [if_neg (by assumption)]
      case done =>
        rintro ⟨vs2, n2, l2, add2⟩ u2 h2 tk2 ⟨tok2, dv2, sub2, pH, pD, pL, pN, c1, c2, eq2⟩ F3 N3
        clear F2 N2
        dsimp only at tok2 dv2 sub2 pH pD pL pN c1 c2 eq2 N3
        dsimp only [kstB] at F3
        have c3 : l2.length ≤ (pop l1').2.length + 2 := c1
        have eq3 : l2 = [2, 3].foldl (step len (pop l1').1) (pop l1').2 := eq2
        have er := rows_go (f := g1) (n := len) hpos (show F1'.length < 99 by omega)
        rw [if_neg hq, ← eq3, eq] at er
        intro hle2
        k_steps
        refine' t_end (σ := RS) ⟨vs2, n2, l2, fs1,k1,F1', add2, g1⟩ ?F ?N ?hk ⟨by dsimp only at hle2 ⊢; omega, tok2.mono hle2, dv2, df2.mono sub2, pH, pD, pN, ?_, ?_, ?_, er.symm⟩ ?hm
        case F => assumption
        case N => exact fun p hp => (by assumption : News _ _ _ _) p (.tail _ hp)
        case hk => kst_all
        case hm => exact Nat.lt_succ_self _
        · dsimp only; omega
        · intro it hi
          have := c2 (70 - g1) (fun it hi => by have := hx1 it hi; omega) (by omega) it hi
          dsimp only
          omega
        · (try simp only [List.length_append, List.length_singleton]); (try dsimp only); omega
    · rw [rows_end (by assumption)] at eq
      cases eq
      rename News h₀ _ _ _ => kN
      refine hret _ _ _ _ (by assumption) (fun p hp => kN p ?_) ⟨D, fs1, k1, add1, rfl, rfl, df, fun q hq => tb_ltOf l4.2.2.2 q hq, oN, tokA.mono (by omega)⟩
      rcases List.mem_cons.mp hp with rfl | hp
      · exact .tail _ (.head _)
      · exact .tail _ (.tail _ (.tail _ hp))
end Mine
end

section
open PySem PySem.W PyProof.Rows
set_option maxRecDepth 100000
set_option maxHeartbeats 1000000
namespace Mine
local macro_rules | `(tactic| walk_at "exec For Name Name cons nil") => `(tactic| (k_here; (rename Fr _ _ _ _ => lF'); (with_unfolding_all refine' For_invVF lF' ?k1 ?k2 ?_; (case k1 => exact rfl); (case k2 => exact rfl); k_whole)))
local macro_rules | `(tactic| walk_at "pyIter ref") => `(tactic| (refine Hold.h ?_))
local macro_rules | `(tactic| walk_at "WPost") => `(tactic| (dsimp only [WPost]))
local macro_rules | `(tactic| walk_at "compareOp Is int int") => `(tactic| (k_here; (refine my_is ?k1 ?k2 ?k3 ?_; (case k1 => assumption); (case k2 => assumption); (case k3 => assumption)); (try dsimp only)))
set_option maxHeartbeats 8000000 in
theorem countOf_spec (w : World) (t : Addr) (vs : List Value) (n : Nat) (r : List Int) (k : Int) (u : Tok) (news0 : Led)
    (hm : (t, ({ cls := .type "tuple", data := .seq vs.toArray n } : Obj)) ∈ news0) (hi : IntsAre vs r) (htok : ∀ i tt, Value.int i tt ∈ vs → 0 < tt ∧ tt < u) (hk : smallInt k = true) :
    Spec w 90 3 60 [.ref t, .int k u] news0 (fun r' news' => ∃ tok, r' = .int (r.count k : Int) tok ∧ news' = news0) := by
  w_top off
  unfold Spec PR
  k_fill
  intro p loose mean mg mb dp un gd cn cs a ccd cl outer A₀ base h₀ L m s Q E B F X N T hkf hdp hun hret
  refine wpAny_call ?_
  k_dflt ktr_enter
  rename Fr _ _ _ (fun _ => _) => F9
  replace F9 : Fr _ _ _ (fm [(Str.ofString "b", .int k u), (Str.ofString "a", .ref t)]) := F9
  k_steps
  refine ⟨?_⟩
  rename_i F' N'
  have hl : Heap.IsTuple _ t vs.toArray := ⟨_, (N' _ hm).1, rfl, n, rfl⟩
  have hlt := Heap.lt_size (N' _ hm).1
  refine wpAny_pyIter_tuple hl ?_
  have W := Walks.tuple (prog := PR) (w := w) (A := (ktrTop dp un gd cn cs L a ccd cl outer)) rfl _ t (Nat.ne_of_lt hlt) vs.toArray
  refine' my_forW (σ := Nat × Tok) (fun _ => news0) (fun c => [(Str.ofString "b", .int k u), (Str.ofString "a", .ref t), (Str.ofString "count", .int (c.1 : Int) c.2)])
    (fun i c => c.1 = (r.take i).count k) (0, _) (Walks.tuple rfl _ t (Nat.ne_of_lt hlt) vs.toArray) ?hL ?hwr ?hnw ?hst (F'.push _) (fun p hp => ⟨Heap.get?_push_of_some _ (N' p hp).1, (N' p hp).2⟩) ?hk rfl ?turn ?done
  case hL =>
    intro hm2
    simp only [List.mem_cons, List.not_mem_nil, or_false] at hm2
    rcases hm2 with e | e
    · exact absurd F'.ns.lt (e ▸ Nat.lt_irrefl _)
    · exact (N' _ hm).2.1 e.symm
  case hwr =>
    intro b hb
    rw [List.mem_singleton.mp hb]
    exact next_is_new F'
  case hnw =>
    intro p hp hI
    exact absurd (Heap.lt_size (N' p hp).1) ((List.mem_singleton.mp hI) ▸ Nat.lt_irrefl _)
  case hst => exact ⟨⟨_, Heap.get?_push_size _ rfl, rfl, rfl⟩, hl.at fun o e => Heap.get?_push_of_some _ e⟩
  case hk => kst_all
  case turn =>
    rintro i v ⟨c, ct⟩ u2 h2 tk2 own hi2 hv hnw2 hown hR F3 N3
    clear F' N' hl hlt
    dsimp only at hR
    obtain ⟨q, tt, hq, rfl⟩ := ints_at hi (show vs[i]? = some v by simpa using hv)
    obtain ⟨ht1, ht2⟩ := htok q tt (List.mem_of_getElem? (show vs[i]? = some _ by simpa using hv))
    have htk := take_snoc hq
    dsimp only [kstB] at F3
    k_steps
    · rename q = k => e
      refine' w_end (σ := Nat × Tok) (c + 1, _) ?F ?N (fun _ h => h) hnw2 ?hk ?hp
      case F => assumption
      case N => assumption
      case hk => kst_all
      case hp =>
        dsimp only
        rw [htk, List.count_append, ← hR, e]
        simp
    · exact absurd (by assumption : q = k) (by assumption)
    · rename q ≠ k => e
      refine' w_end (σ := Nat × Tok) (c, ct) ?F ?N (fun _ h => h) hnw2 ?hk ?hp
      case F => assumption
      case N => assumption
      case hk => kst_all
      case hp =>
        dsimp only
        rw [htk, List.count_append, ← hR]
        simp [e]
  case done =>
    rintro ⟨c, ct⟩ u2 h2 tk2 hR F3 N3
    clear F' N' hl hlt
    dsimp only at hR
    dsimp only [kstB] at F3
    have e : r.take vs.toArray.size = r := by rw [List.size_toArray, hi.length, List.take_length]
    rw [e] at hR
    subst hR
    k_steps
    exact hret _ _ _ _ (by assumption) (by assumption) ⟨_, rfl, rfl⟩
end Mine
end

section
open PySem PySem.W PyProof.Rows
set_option maxRecDepth 100000
set_option maxHeartbeats 1000000
namespace Mine
local macro_rules | `(tactic| walk_at "no such place") => `(tactic| fail "no such place")

local macro_rules | `(tactic| walk_at "subscriptTail") => `(tactic| first | (k_here; (with_reducible show wpAny _ _ (subscriptTail _ _ (Value.ref _) (Value.int _ _)) _ _ _); (with_unfolding_all refine' my_sub ?k1 ?k2 ?k3 ?k4 ?k5 ?k6 ?_ ?k7; (case k1 => k_asm); (case k2 => first | assumption | k_mem); (case k3 => with_reducible assumption); (case k4 => omega); (case k5 => omega); (case k6 => omega); (case k7 => with_unfolding_all rfl); k_whole); intro a' x' hx' hD'; (try dsimp only)) | (refine Hold.h ?_))
local macro_rules | `(tactic| walk_at "compareOp Lt ref ref") => `(tactic| first | (k_here; (with_reducible show wpAny _ _ (compareOp CmpOp.Lt (Value.ref _) (Value.ref _)) _ _ _); (refine' my_ltR ?k1 ?k2 ?k3 ?k4 ?k5 ?_; (case k1 => k_asm); (case k3 => with_reducible assumption); (case k4 => with_reducible assumption); (case k2 => assumption); (case k5 => ((try simp only [units_in1, units_deeper, Around.mark_units, units_caller]); (try dsimp only [ktrTop]); omega)); k_whole); (try dsimp only)) | (refine Hold.h ?_))
local macro_rules | `(tactic| walk_at "exec While Compare cons nil") => `(tactic| (refine Hold.h ?_))
local macro_rules | `(tactic| walk_at "MyPost") => `(tactic| (dsimp only [MyPost]))
local macro_rules | `(tactic| walk_at "call builtin:len") => `(tactic| first | (k_here; (with_reducible show wpAny _ _ (call (Value.builtin "len") [Value.ref _]) _ _ _); k_dflt (refine' my_len ?k1 ?k2 ?k3 ?k4 ?_; (case k1 => k_asm); (case k2 => first | assumption | k_mem); (case k3 => with_reducible assumption); (case k4 => omega); k_whole); (try dsimp only)) | (refine Hold.h ?_))
local macro_rules | `(tactic| walk_at "binaryOp FloorDiv int int") => `(tactic| (refine my_half ?_; (try dsimp only)))

set_option maxHeartbeats 8000000 in
theorem bisect_spec (w : World) (H : Addr) (vs : List Value) (n : Nat) (news0 L9 : Led) (l : List (List Int)) (x : Addr) (r : List Int) (t0 : Tok)
    (hm : (H, listOf vs.toArray n) ∈ news0) (hs9 : ∀ p ∈ L9, p ∈ news0) (hd : DatAll L9 vs (l.map rowD)) (hx : DatIn L9 (.ref x) (rowD r)) (hz : l.length ≤ 1000) :
    Spec w 41 3 60 [.ref H, .ref x, .int 0 t0, .none] news0 (fun r' news' => ∃ tok, r' = .int (bisect r l : Int) tok ∧ news' = news0) := by
  w_top off
  unfold Spec PR
  k_fill
  intro p loose mean mg mb dp un gd cn cs a ccd cl outer A₀ base h₀ L m s Q E B F X N T hkf hdp hun hret
  refine wpAny_call ?_
  k_dflt (refine' code_def ?k1 ?k2 ?k3 ?k4 ?k5 ?kA ?kF ?kK ?k6 ?k7 ?k8 ?k9 ?kB ?_ ?c2 ?c3 ?c4 ?c5; (case kA => exact rfl); (case kF => exact rfl); (case kK => assumption); (case k1 => k_asm); (case k2 => k_asm); (case k3 => k_asm); (case k4 => k_asm); (case k5 => k_asm); (case k6 => k_is); (case k7 => k_is); (case k8 => ktr_room); (case k9 => (refine' kp_binds ?kx ?ke; (case kx => k_in); (case ke => exact fun _ => rfl))); (case c5 => decide); (case kB => exact locs rfl); (case c2 => exact rfl); (case c3 => exact rfl); (case c4 => exact rfl); k_whole; intro g' L' h' FG' F' N' B' X' T'; (try dsimp only); (try k_fold))
  rename Fr _ _ _ (fun _ => _) => F9
  replace F9 : Fr _ _ _ (fm [(Str.ofString "key", .none), (Str.ofString "hi", .none), (Str.ofString "lo", .int 0 t0), (Str.ofString "x", .ref x), (Str.ofString "a", .ref H)]) := F9
  k_steps
  refine ⟨?_⟩
  rename_i F' N'
  refine' my_while (σ := Nat × Nat × Tok × Tok) (fun _ => news0)
    (fun c => [(Str.ofString "key", .none), (Str.ofString "lo", .int (c.1 : Int) c.2.2.1), (Str.ofString "hi", .int (c.2.1 : Int) c.2.2.2), (Str.ofString "x", .ref x), (Str.ofString "a", .ref H)])
    (fun c => c.1 ≤ c.2.1 ∧ c.2.1 ≤ l.length ∧ ∃ f, c.2.1 - c.1 ≤ f ∧ bis f r l c.1 c.2.1 = bisect r l) (fun c => c.2.1 - c.1) (0, l.length, _, _) F' N' (fun _ h => h) ?hk ?hp ?hE ?turn
  case hk => kst_all
  case hE => with_unfolding_all passes_own
  case hp => exact ⟨Nat.zero_le _, Nat.le_refl _, l.length, Nat.le_refl _, rfl⟩
  case turn =>
    rintro ⟨lo, hi, t1, t2⟩ u h1 tk1 ⟨h1', h2', f, hf, hs⟩ F1 N1
    clear F' N'
    dsimp only at h1' h2' hf hs
    dsimp only [kstB] at F1
    k_steps
    · rename rlt _ _ = true => hlt
      rename l[_]? = some _ => hy
      obtain ⟨g, hg, e⟩ := bis_left (by omega) hf hy hlt
      refine' my_end (lo, (lo + hi) / 2, _, _) ?F ?N ?hk ⟨by dsimp only; omega, by dsimp only; omega, g, hg, e.symm.trans hs⟩ ?hm
      case F => assumption
      case N => assumption
      case hk => kst_all
      case hm => dsimp only; omega
    · rename rlt _ _ = false => hlt
      rename l[_]? = some _ => hy
      obtain ⟨g, hg, e⟩ := bis_right (by omega) hf hy hlt
      refine' my_end ((lo + hi) / 2 + 1, hi, _, _) ?F ?N ?hk ⟨by dsimp only; omega, by dsimp only; omega, g, hg, e.symm.trans hs⟩ ?hm
      case F => assumption
      case N => assumption
      case hk => kst_all
      case hm => dsimp only; omega
    · have e : lo = bisect r l := by rw [← hs, bis_stop (by omega)]
      subst e
      exact hret _ _ _ _ (by assumption) (by assumption) ⟨_, rfl, rfl⟩

local macro_rules | `(tactic| walk_at "call ref") => `(tactic| first | (k_here; k_dflt (refine' spec_use (bisect_spec _ _ _ _ _ _ _ _ _ _ ?hm ?hs9 ?hd ?hx ?hz) ?k1 ?k2 ?k3 ?k4 ?k5 ?k6 ?k7 ?k8 ?_; (case k1 => k_asm); (case k2 => k_asm); (case k3 => k_asm); (case k4 => k_asm); (case k5 => k_asm); (case k6 => exact rfl); (case hm => k_mem); (case hd => with_reducible assumption); (case hx => with_reducible assumption); (case hs9 => exact tail_sub (by assumption)); (case hz => omega); (case k7 => (dsimp only [ktrTop]; omega)); (case k8 => (dsimp only [ktrTop]; omega)); k_whole); intro r' h' tk' news' F' N' hP'; (obtain ⟨t', hr', hn'⟩ := hP'); subst hr'; subst hn'; (try dsimp only); (try k_sweep)) | (refine Hold.h ?_))
local macro_rules | `(tactic| k_all) => `(tactic| assumption)
local macro_rules | `(tactic| walk_at "call builtin:list.insert") => `(tactic| first | (k_here; (with_reducible show wpAny _ _ (call (Value.builtin _) [Value.ref _, Value.int _ _, _]) _ _ _); k_dflt (refine' my_insert ?k1 ?k2 ?k3 ?k4 ?k5 ?k6 ?k7 ?_; (case k1 => k_asm); (case k2 => k_asm); (case k3 => k_upd); (case k4 => with_reducible assumption); (case k5 => with_reducible assumption); (case k6 => exact bisect_le _ _); (case k7 => omega); k_whole); intro h' F' N' hd'; (try dsimp only); (try k_sweep)) | (refine Hold.h ?_))
set_option maxHeartbeats 8000000 in
theorem insort_spec (w : World) (H : Addr) (vs : List Value) (n : Nat) (rest L9 : Led) (l : List (List Int)) (x : Addr) (r : List Int)
    (ho : ∀ p ∈ rest, p.1 ≠ H) (hs9 : ∀ p ∈ L9, p ∈ rest) (hd : DatAll L9 vs (l.map rowD)) (hx : DatIn L9 (.ref x) (rowD r)) (hz : l.length ≤ 1000) :
    Spec w 32 6 120 [.ref H, .ref x] ((H, listOf vs.toArray n) :: rest)
      (fun r' news' => r' = .none ∧ ∃ vs', news' = (H, listOf vs'.toArray (n + 1)) :: rest ∧ DatAll L9 vs' ((insort l r).map rowD)) := by
  w_top off
  unfold Spec PR
  k_fill
  intro p loose mean mg mb dp un gd cn cs a ccd cl outer A₀ base h₀ L m s Q E B F X N T hkf hdp hun hret
  refine wpAny_call ?_
  k_dflt (refine' code_def ?k1 ?k2 ?k3 ?k4 ?k5 ?kA ?kF ?kK ?k6 ?k7 ?k8 ?k9 ?kB ?_ ?c2 ?c3 ?c4 ?c5; (case kA => exact rfl); (case kF => exact rfl); (case kK => assumption); (case k1 => k_asm); (case k2 => k_asm); (case k3 => k_asm); (case k4 => k_asm); (case k5 => k_asm); (case k6 => k_is); (case k7 => k_is); (case k8 => ktr_room); (case k9 => (refine' kp_binds ?kx ?ke; (case kx => k_in); (case ke => exact fun _ => rfl))); (case c5 => decide); (case kB => exact locs rfl); (case c2 => exact rfl); (case c3 => exact rfl); (case c4 => exact rfl); k_whole; intro g' L' h' FG' F' N' B' X' T'; (try dsimp only); (try k_fold))
  k_steps
  rename DatAll L9 _ _ => hd2
  exact hret _ _ _ _ (by assumption) (by assumption) ⟨rfl, _, rfl, hd2⟩
end Mine
end

section
open PySem PySem.W PyProof.Rows PySem.Calls PySem.Spec
set_option maxRecDepth 100000
set_option maxHeartbeats 1000000
namespace Mine
abbrev rangeO (n : Int) (t u v : Tok) : Obj := { cls := .type "range", dict := none, data := .fields #[.int 0 t, .int n u, .int 1 v], slots := #[] }
abbrev rangeI (x left : Int) : Obj := { cls := .type "range_iterator", dict := none, data := .fields #[rawInt x, rawInt left, rawInt 1], slots := #[] }
section
variable {prog : Program} {w : World} {A : Around} {E : Value → Shared → Prop} {s : Shared} {h₀ : Heap} {L R : Addr} {m : Str → Option Value} {news : List (Addr × Obj)}
theorem my_range {n : Int} {t : Tok} {Q : Value → Shared → Prop} (F : Fr h₀ L s.heap m) (N : News h₀ L s.heap news)
    (h : ∀ R h' tk t₁ u₁ v₁, Fr h₀ L h' m → News h₀ L h' ((R, rangeO n t₁ u₁ v₁) :: news) → (∀ p ∈ news, p.1 < R) → Q (.ref R) { s with heap := h', toks := tk }) :
    wpAny (model prog w) A (call (.type "range") [.int n t]) Q E s :=
  call_range_1 (h _ _ _ _ _ _ (F.push _) (News.push F N _ rfl) fun p hp => Heap.lt_size (N p hp).1)
theorem rsize_nat (N : Nat) : Builtin.Range.rangeSize 0 (N : Int) 1 = (N : Int) := by
  rw [rangeSize_nat]; omega
theorem rsmall {N : Nat} (h : N ≤ 1000) : Builtin.Range.small 0 (N : Int) 1 = true := by
  unfold Builtin.Range.small
  rw [rsize_nat]
  simp [Builtin.Range.rangeFitsLong]
  omega
theorem my_iterR {k : Nat} {t u v : Tok} {Q : Value → Shared → Prop} (F : Fr h₀ L s.heap m) (N : News h₀ L s.heap news) (hm : (R, rangeO (k : Int) t u v) ∈ news) (hk : k ≤ 1000)
    (h : ∀ I h', Fr h₀ L h' m → News h₀ L h' ((I, rangeI 0 (k : Int)) :: news) → (∀ p ∈ news, p.1 < I) → Q (.ref I) { s with heap := h' }) :
    wpAny (model prog w) A (call (.builtin "iter") [.ref R]) Q E s := by
  refine call_function_entry (by decide +kernel) (by decide +kernel) kdk_entry_iter (kdk_args_iter _) ?_
  unfold Builtin.«iter»
  refine wpAny_bind (m := someArgs "iter" 1 2 _) (wpAny_of_eq (a := [Value.ref R]) (by first | rfl | kernel_rfl!) ?_)
  show wpAny _ _ (pyIter (.ref R) >>= _) _ _ _
  refine wpAny_bind (wpAny_pyIter_range (N _ hm).1 (rsmall hk) ?_)
  rw [rsize_nat]
  exact wpAny_pure ⟨_, rfl, h _ _ (F.push _) (News.push F N _ rfl) (fun q hq => Heap.lt_size (N q hq).1)⟩
theorem my_isO {x y : Addr} {ox oy : Obj} {Q : Value → Shared → Prop} (hxy : x ≠ y) (hx : s.heap.get? x = some ox) (hy : s.heap.get? y = some oy) (hnt : oy.cls ≠ .type "tuple") (h : Q (.bool false) s) :
    wpAny (model prog w) A (compareOp .Is (.ref x) (.ref y)) Q E s := by
  show wpAny _ _ (do return .bool (← isSame (.ref x) (.ref y))) Q E s
  refine wpAny_bind ?_
  unfold isSame
  simp only []
  rw [if_neg (by simpa using hxy)]
  refine wpAny_bind (wpAny_load hx (wpAny_bind (wpAny_load hy ?_)))
  split
  · rename_i h1 h2 _ _
    exact absurd h2 hnt
  · exact wpAny_pure (wpAny_pure h)
end
section
variable {prog : Program} {w : World} {A : Around} {E : Value → Shared → Prop} {Q : Flow → Shared → Prop} {s : Shared} {env : Env} {h₀ : Heap} {x : Str} {body : List Stmt}
/-- the same, with what the source holds -/
theorem my_forW2 {σ : Type} {I : Addr} {fp wr : List Addr} {n : Nat} {P : Nat → Value → Prop} {St : Nat → Heap → Prop} {m₀ : Str → Option Value} (Led : σ → List (Addr × Obj)) (ps : σ → List (Str × Value)) (R : Nat → σ → Prop) (c₀ : σ)
    (W : Walks prog w A I fp wr n P St) (hL : env.locals ∉ fp) (hwr : ∀ b ∈ wr, h₀.get? b = none) (hnw : ∀ p ∈ Led c₀, p.1 ∉ wr) (hst : St 0 s.heap) (F : Fr h₀ env.locals s.heap m₀) (N : News h₀ env.locals s.heap (Led c₀)) (hk : ∀ p ∈ ps c₀, m₀ p.1 = some p.2) (hp : R 0 c₀)
    (turn : ∀ i v (c : σ) (u : Str → Option Value) h tk own, i < n → P i v → (∀ p ∈ Led c, p.1 ∉ wr) → (∀ p ∈ own, p.1 ∈ fp) → (∀ b ∈ fp, h₀.get? b = none → ∀ o, h.get? b = some o → (b, o) ∈ own) → St (i + 1) h → R i c → Fr h₀ env.locals h (fun y => if y = x then some v else kstB u (ps c) y) → News h₀ env.locals h (own ++ Led c) →
      wpAny (model prog w) A (execs body env) (WPost h₀ env.locals { s with heap := h, toks := tk } Led ps (R (i + 1)) wr own Q) E { s with heap := h, toks := tk })
    (done : ∀ (c : σ) (u : Str → Option Value) h tk, R n c → Fr h₀ env.locals h (kstB u (ps c)) → News h₀ env.locals h (Led c) → Q .next { s with heap := h, toks := tk }) :
    LoopAtV prog w A h₀ env x body Q E (.ref I) s := by
  refine ⟨I, fp, wr, n, P, St, m₀, Led c₀, FJ Led ps R, rfl, W, hL, hwr, hnw, hst, F, N, ⟨c₀, rfl, hk, hp⟩, ?_, ?_⟩
  · rintro i v m₁ news₁ s₁ own ⟨h, tk, rfl⟩ hi hv ⟨c, rfl, h1, hp'⟩ hoff hown _ hall hst1 F₁ N₁
    refine wpAny_mono (turn i v c m₁ h tk own hi hv hoff hown hall hst1 hp' (fr_kst1 h1 F₁) N₁) (fun f s₂ q => ?_) fun _ _ x => x
    have up : WEnd h₀ env.locals { s with heap := h, toks := tk } Led ps (R (i + 1)) wr own s₂ → LoopStepU h₀ env.locals wr own (FJ Led ps R (i + 1)) { s with heap := h, toks := tk } .next s₂ := by
      rintro ⟨c', h', tk', m', news', e, F', N', hn', hw', hk', hp'⟩
      exact ⟨rfl, h', tk', m', Led c', e, F', fun p hp => N' p (hn' p hp), hw', c', rfl, hk', hp'⟩
    cases f with
    | ret v => exact .ret q
    | brk => exact .brk q
    | next => exact .next (up q)
    | cont => exact .cont (up q)
  · rintro h' tk m' news' F' N' _ ⟨c, rfl, h1, hp'⟩
    exact done c m' h' tk hp' (fr_kst h1 F') N'
end
end Mine
end

section
open PySem PySem.W PyProof.Rows
set_option maxRecDepth 100000
set_option maxHeartbeats 1000000
namespace Mine
local macro_rules | `(tactic| walk_at "no such place") => `(tactic| fail "no such place")
local macro_rules | `(tactic| walk_at "no such place") => `(tactic| fail "no such place")
local macro_rules | `(tactic| walk_at "no such place") => `(tactic| fail "no such place")
local macro_rules | `(tactic| walk_at "no such place") => `(tactic| fail "no such place")
local macro_rules | `(tactic| walk_at "no such place") => `(tactic| fail "no such place")
/-- Padovan, step by step -/
def tri : Nat → Int × Int × Int
  | 0 => (1, 0, 1)
  | n + 1 => ((tri n).2.1, (tri n).2.2, (tri n).1 + (tri n).2.1)
def many (n : Nat) : Int := (tri n).1
/-- the same where the code table of _law_many may grow -/
def SpecC (w : World) (f : Addr) (dn cu : Nat) (args : List Value) (news : Led) (Post : Value → Led → Prop) : Prop :=
  ∀ (p : Program) (loose : List Str) (mean : ExcName → Option Value) (mg mb : Str → Option Value) (dp un : Nat) (gd : Option (List Code)) (cn : Str) (cs : Scope) (a : Addr) (ccd : Value) (cl : List (Str × Addr)) (outer : List Env) (A₀ : Around) (base h₀ : Heap) (L : Addr) (m : Str → Option Value) (s : Shared) (Q E : Value → Shared → Prop),
    Below A₀ base outer h₀ → Fr h₀ L s.heap m → (hd.heap_39 w.params).In h₀ → News h₀ L s.heap news → Top p loose mean mg mb h₀ → CodeHd base 103 99 → cs.kind = .function → dp + dn < recursionLimit → un + cu < cLine →
    (∀ r h' tk' news', Fr h₀ L h' m → News h₀ L h' news' → Post r news' → Q r { s with heap := h', toks := tk' }) →
    wpAny (model PR w) (ktrTop dp un gd cn cs L a ccd cl outer) (call (.ref f) args) Q E s
def lamP : Arguments := { posonlyargs := [], args := [{ arg := Str.ofString "three", annotation := none, pos := { line := 103, col := 25, endLine := 103, endCol := 30 } }, { arg := Str.ofString "turn", annotation := none, pos := { line := 103, col := 32, endLine := 103, endCol := 36 } }], vararg := none, kwonlyargs := [], kw_defaults := [], kwarg := none, defaults := [] }
def lamB : PySem.Expr :=
            (Expr.Tuple
              [(Expr.Name (Str.ofString "three") { line := 103, col := 39, endLine := 103, endCol := 44 }).Subscript
                  (Expr.Constant (Const.int 1) 0 { line := 103, col := 45, endLine := 103, endCol := 46 })
                  { line := 103, col := 39, endLine := 103, endCol := 47 },
                (Expr.Name (Str.ofString "three") { line := 103, col := 49, endLine := 103, endCol := 54 }).Subscript
                  (Expr.Constant (Const.int 2) 0 { line := 103, col := 55, endLine := 103, endCol := 56 })
                  { line := 103, col := 49, endLine := 103, endCol := 57 },
                (Expr.Name (Str.ofString "add") { line := 103, col := 59, endLine := 103, endCol := 62 }).Call
                  [(Expr.Name (Str.ofString "three") { line := 103, col := 63, endLine := 103, endCol := 68 }).Subscript
                      (Expr.Constant (Const.int 0) 0 { line := 103, col := 69, endLine := 103, endCol := 70 })
                      { line := 103, col := 63, endLine := 103, endCol := 71 },
                    (Expr.Name (Str.ofString "three")
                          { line := 103, col := 73, endLine := 103, endCol := 78 }).Subscript
                      (Expr.Constant (Const.int 1) 0 { line := 103, col := 79, endLine := 103, endCol := 80 })
                      { line := 103, col := 73, endLine := 103, endCol := 81 }]
                  [] { line := 103, col := 59, endLine := 103, endCol := 82 }]
              0 { line := 103, col := 38, endLine := 103, endCol := 83 })
def lamS : Scope := { kind := ScopeKind.function, names := [(Str.ofString "three", NameKind.local), (Str.ofString "turn", NameKind.local), (Str.ofString "add", NameKind.globalImplicit)], isGenerator := false, isCoroutine := false }
def lamQ : Str := Str.ofString "_law_many.<locals>.<lambda>"
abbrev lamO (mg : Str → Option Value) (c' : Addr) (ct : Value) : Obj :=
  kla_obj (Str.ofString "<lambda>") lamQ
            { posonlyargs := [],
              args :=
                [{ arg := Str.ofString "three", annotation := none,
                    pos := { line := 103, col := 25, endLine := 103, endCol := 30 } },
                  { arg := Str.ofString "turn", annotation := none,
                    pos := { line := 103, col := 32, endLine := 103, endCol := 36 } }],
              vararg := none, kwonlyargs := [], kw_defaults := [], kwarg := none, defaults := [] }
            (Expr.Tuple
              [(Expr.Name (Str.ofString "three") { line := 103, col := 39, endLine := 103, endCol := 44 }).Subscript
                  (Expr.Constant (Const.int 1) 0 { line := 103, col := 45, endLine := 103, endCol := 46 })
                  { line := 103, col := 39, endLine := 103, endCol := 47 },
                (Expr.Name (Str.ofString "three") { line := 103, col := 49, endLine := 103, endCol := 54 }).Subscript
                  (Expr.Constant (Const.int 2) 0 { line := 103, col := 55, endLine := 103, endCol := 56 })
                  { line := 103, col := 49, endLine := 103, endCol := 57 },
                (Expr.Name (Str.ofString "add") { line := 103, col := 59, endLine := 103, endCol := 62 }).Call
                  [(Expr.Name (Str.ofString "three") { line := 103, col := 63, endLine := 103, endCol := 68 }).Subscript
                      (Expr.Constant (Const.int 0) 0 { line := 103, col := 69, endLine := 103, endCol := 70 })
                      { line := 103, col := 63, endLine := 103, endCol := 71 },
                    (Expr.Name (Str.ofString "three")
                          { line := 103, col := 73, endLine := 103, endCol := 78 }).Subscript
                      (Expr.Constant (Const.int 1) 0 { line := 103, col := 79, endLine := 103, endCol := 80 })
                      { line := 103, col := 73, endLine := 103, endCol := 81 }]
                  [] { line := 103, col := 59, endLine := 103, endCol := 82 }]
              0 { line := 103, col := 38, endLine := 103, endCol := 83 })
            { kind := ScopeKind.function,
              names :=
                [(Str.ofString "three", NameKind.local), (Str.ofString "turn", NameKind.local),
                  (Str.ofString "add", NameKind.globalImplicit)],
              isGenerator := false, isCoroutine := false }
            [] ((mg (Str.ofString "__name__")).getD Value.none) c' ct
def tri3 (v : Int × Int × Int) (t : Tok × Tok × Tok) : Obj := tupO [.int v.1 t.1, .int v.2.1 t.2.1, .int v.2.2 t.2.2]
local macro_rules | `(tactic| walk_at "exec For Name Name cons nil") => `(tactic| (k_here; (rename Fr _ _ _ _ => lF'); (with_unfolding_all refine' For_invVF lF' ?k1 ?k2 ?_; (case k1 => exact rfl); (case k2 => exact rfl); k_whole)))
local macro_rules | `(tactic| walk_at "pyIter ref") => `(tactic| (refine Hold.h ?_))
local macro_rules | `(tactic| walk_at "WPost") => `(tactic| (dsimp only [WPost]))
local macro_rules | `(tactic| walk_at "call builtin:iter") => `(tactic| first | (k_here; k_dflt (refine' my_iterR ?k1 ?k2 ?k3 ?k4 ?_; (case k1 => k_asm); (case k2 => k_asm); (case k3 => k_mem); (case k4 => omega); k_whole); intro I' h' F' N' l1; (try dsimp only); (try k_lt l1)) | (refine Hold.h ?_))
local macro_rules | `(tactic| walk_at "compareOp Is ref ref") => `(tactic| (k_here; k_dflt (refine' my_isO ?n ?a ?b ?c ?_; (case a => kto_obj); (case b => kto_obj); (case n => kto_ne); (case c => kto_not); k_whole)))
local macro_rules | `(tactic| k_room) => `(tactic| ktr_room)
set_option maxHeartbeats 8000000 in
theorem reduce_spec (w : World) (mg0 : Str → Option Value) (f c' R D : Addr) (oc : Obj) (ovs : Array Value) (qt : Tok) (ct : Value) (N : Nat) (t u v : Tok) (tt : Tok × Tok × Tok) (rest : Led) (hN : N ≤ 100) (ho : oc.data = .fields ovs) (hq : ovs[1]? = some (.str lamQ qt)) :
    SpecC w 23 10 200 [.ref f, .ref R, .ref D] ((D, tri3 (tri 0) tt) :: (R, rangeO (N : Int) t u v) :: (f, lamO mg0 c' ct) :: (c', oc) :: rest)
      (fun r news' => ∃ V tt', r = .ref V ∧ news' = (V, tri3 (tri N) tt') :: (D, tri3 (tri 0) tt) :: (R, rangeO (N : Int) t u v) :: (f, lamO mg0 c' ct) :: (c', oc) :: rest) := by
  w_top off
  unfold SpecC PR
  k_fill
  intro p loose mean mg mb dp un gd cn cs a ccd cl outer A₀ base h₀ L m s Q E B F X N' T C hkf hdp hun hret
  refine wpAny_call ?_
  k_dflt (refine' code_def ?k1 ?k2 ?k3 ?k4 ?k5 ?kA ?kF ?kK ?k6 ?k7 ?k8 ?k9 ?kB ?_ ?c2 ?c3 ?c4 ?c5; (case kA => exact rfl); (case kF => exact rfl); (case kK => assumption); (case k1 => k_asm); (case k2 => k_asm); (case k3 => k_asm); (case k4 => k_asm); (case k5 => k_asm); (case k6 => k_is); (case k7 => k_is); (case k8 => ktr_room); (case k9 => (refine' kp_binds ?kx ?ke; (case kx => k_in); (case ke => exact fun _ => rfl))); (case c5 => decide); (case kB => exact locs rfl); (case c2 => exact rfl); (case c3 => exact rfl); (case c4 => exact rfl); k_whole; intro g' L' h' FG' F' N' B' X' T'; (try dsimp only); (try k_fold))
  rename Fr _ _ _ (fun _ => _) => F9
  replace F9 : Fr _ _ _ (fm [(Str.ofString "initial", .ref D), (Str.ofString "sequence", .ref R), (Str.ofString "function", .ref f)]) := F9
  k_steps
  refine ⟨?_⟩
  rename News _ _ _ _ => N2
  rename Fr _ _ _ (fun _ => _) => F2
  rename (D < _ ∧ _) => hI
  rename_i I _ _ h2
  have hlt : ∀ p ∈ (D, tri3 (tri 0) tt) :: (R, rangeO (N : Int) t u v) :: (f, lamO mg0 c' ct) :: (c', oc) :: rest, p.1 < I := by
    obtain ⟨a1, a2, a3, a4, a5⟩ := hI
    exact List.forall_mem_cons.mpr ⟨a1, List.forall_mem_cons.mpr ⟨a2, List.forall_mem_cons.mpr ⟨a3, List.forall_mem_cons.mpr ⟨a4, tb_ltOf a5⟩⟩⟩⟩
  have hst : IsRangeIter h2 I (0 + ((0 : Nat) : Int) * 1) ((N : Int) - ((0 : Nat) : Int)) 1 := by
    have := (N2 _ (.head _)).1
    simpa using this
  refine (Walks.range (prog := PR) (w := w) rfl I 0 1 N).self 0 _ _ _ hst ?_
  refine' my_forW2 (σ := Addr × (Tok × Tok × Tok) × Nat) (fun c => (c.1, tri3 (tri c.2.2) c.2.1) :: (D, tri3 (tri 0) tt) :: (R, rangeO (N : Int) t u v) :: (f, lamO mg0 c' ct) :: (c', oc) :: rest) (fun c => [(Str.ofString "function", .ref f), (Str.ofString "value", .ref c.1)])
    (fun i c => c.2.2 = i) (D, tt, 0) (Walks.range rfl I 0 1 N) ?hL ?hwr ?hnw hst F2 ?hN ?hk rfl ?turn ?done
  case hN => exact List.forall_mem_cons.mpr ⟨N2 _ (.tail _ (.head _)), fun p hp => N2 p (.tail _ hp)⟩
  case hL =>
    intro hm2
    rw [List.mem_singleton] at hm2
    exact (N2 _ (.head _)).2.1 hm2.symm
  case hwr =>
    intro b hb
    rw [List.mem_singleton.mp hb]
    exact (N2 _ (.head _)).2.2
  case hnw =>
    intro p hp hI
    rw [List.mem_singleton] at hI
    refine Nat.ne_of_lt (hlt p ?_) hI
    exact (List.mem_cons.mp hp).elim (fun e => e ▸ .head _) id
  case hk => kst_all
  case turn =>
    rintro i v1 ⟨V, vt, j⟩ u2 h3 tk2 own hi2 hv hnw2 hown hall hst3 hR F3 N3
    have hIo := hall I (.head _) ((N2 _ (.head _)).2.2) _ hst3
    clear F2 N2 hst
    dsimp only at hR
    subst hR
    obtain ⟨t5, rfl⟩ := hv
    dsimp only [kstB] at F3
    have N4 : News g' L' h3 ((V, tupO [.int (tri j).1 vt.1, .int (tri j).2.1 vt.2.1, .int (tri j).2.2 vt.2.2]) :: (f, lamO mg0 c' ct) :: (c', oc) :: (D, tri3 (tri 0) tt) :: (R, rangeO (N : Int) t u v) :: (rest ++ own)) := by
      intro p hp
      refine (show News g' L' h3 _ from N3) p ?_
      simp only [List.mem_cons, List.mem_append] at hp ⊢
      rcases hp with hp | hp | hp | hp | hp | hp | hp
      · exact .inr (.inl hp)
      · exact .inr (.inr (.inr (.inr (.inl hp))))
      · exact .inr (.inr (.inr (.inr (.inr (.inl hp)))))
      · exact .inr (.inr (.inl hp))
      · exact .inr (.inr (.inr (.inl hp)))
      · exact .inr (.inr (.inr (.inr (.inr (.inr hp)))))
      · exact .inl hp
    clear N3
    replace F3 : Fr g' L' h3 _ := F3
    k_steps
    rename (_ < _ ∧ _) => hV
    rename News _ _ _ (_ :: _) => N5
    obtain ⟨v1, v2, v3, v4, v5, v6⟩ := hV
    have v7 := tb_ltOf v6 _ (List.mem_append_right _ hIo)
    refine' w_end (σ := Addr × (Tok × Tok × Tok) × Nat) (_, (_, _, _), j + 1) ?F N5 ?hn ?hw ?hk rfl
    case F => assumption
    case hk => kst_all
    case hn =>
      intro p hp
      simp only [List.mem_cons, List.mem_append] at hp
      rcases hp with hp | hp | hp | hp | hp | hp | hp
      · exact .tail _ (.tail _ (.tail _ (.tail _ (.tail _ (.tail _ (List.mem_append_right _ hp))))))
      · subst hp; exact .head _
      · subst hp; exact .tail _ (.tail _ (.tail _ (.tail _ (.head _))))
      · subst hp; exact .tail _ (.tail _ (.tail _ (.tail _ (.tail _ (.head _)))))
      · subst hp; exact .tail _ (.tail _ (.head _))
      · subst hp; exact .tail _ (.tail _ (.tail _ (.head _)))
      · exact .tail _ (.tail _ (.tail _ (.tail _ (.tail _ (.tail _ (List.mem_append_left _ hp))))))
    case hw =>
      refine List.forall_mem_cons.mpr ⟨?_, fun p hp => hnw2 p (.tail _ hp)⟩
      intro e
      exact Nat.ne_of_gt v7 (List.mem_singleton.mp e)
  case done =>
    rintro ⟨V, vt, j⟩ u2 h3 tk2 hR F3 N3
    clear F2 N2 hst
    dsimp only at hR
    subst hR
    dsimp only [kstB] at F3
    k_steps
    exact hret _ _ _ _ (by assumption) (by assumption) ⟨_, _, rfl, rfl⟩
theorem specC_use {w : World} {f : Addr} {dn cu : Nat} {args : List Value} {news : Led} {Post : Value → Led → Prop} {p : Program} {loose : List Str} {mean : ExcName → Option Value} {mg mb : Str → Option Value} {dp un : Nat} {gd : Option (List Code)} {cn : Str} {cs : Scope} {a : Addr} {ccd : Value} {cl : List (Str × Addr)} {outer : List Env} {A₀ : Around} {base h₀ : Heap} {L : Addr} {m : Str → Option Value} {s : Shared} {Q E : Value → Shared → Prop}
    (S : SpecC w f dn cu args news Post) (B : Below A₀ base outer h₀) (F : Fr h₀ L s.heap m) (X : (hd.heap_39 w.params).In h₀) (N : News h₀ L s.heap news) (T : Top p loose mean mg mb h₀) (C : CodeHd base 103 99) (hk : cs.kind = .function) (hdp : dp + dn < recursionLimit) (hun : un + cu < cLine)
    (h : ∀ r h' tk' news', s.toks ≤ tk' → Fr h₀ L h' m → News h₀ L h' news' → Post r news' → Q r { s with heap := h', toks := tk' }) :
    wpAny (model PR w) (ktrTop dp un gd cn cs L a ccd cl outer) (call (.ref f) args) Q E s :=
  any_freeQ (S _ _ _ _ _ _ _ _ _ _ _ _ _ _ _ _ _ _ _ _ _ _ B F X N T C hk hdp hun fun r h' tk' news' F' N' hp hle => h r h' tk' news' hle F' N' hp)
/-- the code table of _law_many: as laid, or grown by its lambda -/
def TabIn (K : List Addr) (ps : Array Value) (rest : Led) : Prop :=
  ps = #[] ∨ ∃ c' oc ovs qt, ps = #[rawInt 103, rawInt 18, .ref c'] ∧ (c', oc) ∈ rest ∧ oc.data = .fields ovs ∧ ovs[1]? = some (.str lamQ qt) ∧ c' ∉ K
local macro_rules | `(tactic| walk_at "call type:range") => `(tactic| first | (k_here; (with_reducible show wpAny _ _ (call _ [Value.int _ _]) _ _ _); k_dflt (refine' my_range ?k1 ?k2 ?_; (case k1 => k_asm); (case k2 => k_asm); k_whole); intro R' h' tk' t1' u1' v1' F' N' l1; (try dsimp only); (try k_lt l1)) | (refine Hold.h ?_))
local macro_rules | `(tactic| walk_at "call ref") => `(tactic| first | (k_here; (with_reducible show wpAny _ _ (call (.ref 23) _) _ _ _); (refine Hold.h ?_)))
local macro_rules | `(tactic| k_all) => `(tactic| assumption)
set_option maxHeartbeats 8000000 in
theorem many_spec (w : World) (k : Int) (N : Nat) (t : Tok) (ps : Array Value) (rest : Led) (K : List Addr) (hk : k = (N : Int)) (hN : N ≤ 100) (hps : TabIn K ps rest) (hK : ∀ b ∈ K, ∃ o, (b, o) ∈ rest) (hoff : ∀ p ∈ rest, p.1 ≠ 99) :
    SpecC w 104 12 300 [.int k t] ((99, tabObj ps) :: rest)
      (fun r news' => ∃ tok ps' add, r = .int (many N) tok ∧ news' = (99, tabObj ps') :: (add ++ rest) ∧ TabIn K ps' (add ++ rest) ∧ (∀ p ∈ add, 99 < p.1 ∧ ∀ q ∈ rest, q.1 < p.1)) := by
  w_top off
  unfold SpecC PR
  k_fill
  intro p loose mean mg mb dp un gd cn cs a ccd cl outer A₀ base h₀ L m s Q E B F X N' T C hkf hdp hun hret
  subst hk
  refine wpAny_call ?_
  k_dflt ktr_enter
  rename Fr _ _ _ (fun _ => _) => F9
  replace F9 : Fr _ _ _ (fm [(Str.ofString "length", .int (N : Int) t)]) := F9
  rcases hps with rfl | ⟨c', oc, ovs, qt, rfl, hm1, hm2, hm3, hm4⟩
  · k_steps
    refine ⟨?_⟩
    rename News _ _ _ _ => N2
    rename (99 < _ ∧ _) => l9
    rename_i f1 c1 o1 v1 q1 ct1 _ _ d1 d2 _ R1 _ _ t1 u1 w1 _ D1 _ _ _
    refine' specC_use (reduce_spec w mg f1 c1 R1 D1 o1 v1 q1 ct1 N t1 u1 w1 (_, _, _) ((99, tabObj #[rawInt 103, rawInt 18, .ref c1]) :: rest) hN d1 d2) ?k1 ?k2 ?k3 (show News _ _ _ _ from N2) ?k4 ?kC ?k6 ?k7 ?k8 ?_
    case k1 => k_asm
    case k2 => k_asm
    case k3 => k_asm
    case k4 => k_asm
    case kC => assumption
    case k6 => exact rfl
    case k7 => dsimp only [ktrTop]; omega
    case k8 => dsimp only [ktrTop]; omega
    clear N2
    rintro r h5 tk5 news5 hle5 F5 N5 ⟨V, tt5, rfl, rfl⟩
    dsimp only [tri3] at N5
    k_steps
    rename News h₀ _ _ _ => N6
    refine hret _ _ _ _ (by assumption) (show News h₀ L _ ((99, tabObj #[rawInt 103, rawInt 18, .ref c1]) :: ([(c1, o1)] ++ rest)) from fun p hp => N6 p ?_) ⟨_, _, _, rfl, rfl, .inr ⟨c1, o1, v1, q1, rfl, .head _, d1, d2, ?_⟩, ?_⟩
    · simp only [List.mem_cons, List.mem_append, List.not_mem_nil, or_false] at hp ⊢
      rcases hp with hp | hp | hp
      · exact .inr (.inr (.inr (.inr (.inr (.inl hp)))))
      · exact .inr (.inr (.inr (.inr (.inl hp))))
      · exact .inr (.inr (.inr (.inr (.inr (.inr hp)))))
    · intro hk
      obtain ⟨o, ho⟩ := hK c1 hk
      exact Nat.lt_irrefl _ (tb_ltOf l9.2 _ ho)
    · intro p hp
      rw [List.mem_singleton.mp hp]
      exact ⟨l9.1, tb_ltOf l9.2⟩
  · k_steps
    refine ⟨?_⟩
    rename News _ _ _ _ => N2
    rename_i f1 ct1 _ _ _ R1 _ _ t1 u1 w1 _ D1 h2 _ _
    obtain ⟨tt0, N3⟩ : ∃ tt0, News _ _ h2 ((D1, tri3 (tri 0) tt0) :: (R1, rangeO (N : Int) t1 u1 w1) :: (f1, lamO mg c' ct1) :: (99, tabObj #[rawInt 103, rawInt 18, .ref c']) :: rest) := ⟨(_, _, _), N2⟩
    refine' specC_use (reduce_spec w mg f1 c' R1 D1 oc ovs qt ct1 N t1 u1 w1 tt0 ((99, tabObj #[rawInt 103, rawInt 18, .ref c']) :: rest) hN hm2 hm3) ?k1 ?k2 ?k3 ?kN ?k4 ?kC ?k6 ?k7 ?k8 ?_
    case k1 => k_asm
    case k2 => k_asm
    case k3 => k_asm
    case k4 => k_asm
    case kC => assumption
    case k6 => exact rfl
    case k7 => dsimp only [ktrTop]; omega
    case k8 => dsimp only [ktrTop]; omega
    case kN =>
      intro p hp
      refine N3 p ?_
      simp only [List.mem_cons] at hp ⊢
      rcases hp with hp | hp | hp | hp | hp | hp
      · exact .inl hp
      · exact .inr (.inl hp)
      · exact .inr (.inr (.inl hp))
      · subst hp; exact .inr (.inr (.inr (.inr hm1)))
      · exact .inr (.inr (.inr (.inl hp)))
      · exact .inr (.inr (.inr (.inr hp)))
    clear N2 N3
    rintro r h5 tk5 news5 hle5 F5 N5 ⟨V, tt5, rfl, rfl⟩
    dsimp only [tri3] at N5
    k_steps
    rename News h₀ _ _ _ => N6
    refine hret _ _ _ _ (by assumption) (show News h₀ L _ ((99, tabObj #[rawInt 103, rawInt 18, .ref c']) :: ([] ++ rest)) from fun p hp => N6 p ?_) ⟨_, _, _, rfl, rfl, .inr ⟨c', oc, ovs, qt, rfl, hm1, hm2, hm3, hm4⟩, fun p hp => absurd hp List.not_mem_nil⟩
    exact .tail _ (.tail _ (.tail _ (.tail _ (.tail _ hp))))
end Mine
end

section
open PySem PySem.W PyProof.Rows PySem.Calls PySem.Spec
set_option maxRecDepth 100000
set_option maxHeartbeats 1000000
namespace Mine
/-- the sort's questions, answered by c -/
def KasT.run' {α : Type} (c : Nat → Nat → Bool) : KasT α → α
  | .ret a => a
  | .ask i j k => KasT.run' c (k (c i j))
/-- every question is about the n items -/
def KasT.ok {α : Type} (n : Nat) (c : Nat → Nat → Bool) : KasT α → Bool
  | .ret _ => true
  | .ask i j k => decide (i < n) && (decide (j < n) && KasT.ok n c (k (c i j)))
theorem kas_pure {α : Type} {n : Nat} {c : Nat → Nat → Bool} {cmp : Nat → Nat → (Bool → Shared → Prop) → Shared → Prop} {Q : α → Shared → Prop} {s : Shared} (h : ∀ i j (C : Bool → Shared → Prop), i < n → j < n → C (c i j) s → cmp i j C s) :
    ∀ (t : KasT α), KasT.ok n c t = true → Q (KasT.run' c t) s → t.kasWp cmp Q s
  | .ret a, _, q => q
  | .ask i j k, o, q => by
    unfold KasT.ok at o
    simp only [Bool.and_eq_true, decide_eq_true_eq] at o
    exact h i j _ o.1 o.2.1 (kas_pure h (k (c i j)) o.2.2 q)
def rc (l : List (List Int)) (i j : Nat) : Bool := rlt (l.getD i []) (l.getD j [])
def srt (l : List (List Int)) : List (List Int) := if l.length < 2 then l else (KasT.run' (rc l) (kas_sort l.length)).toList.map fun i => l.getD i []
def srtOk (l : List (List Int)) : Bool := decide (l.length < 2) || (decide (l.length < 64) && (KasT.ok l.length (rc l) (kas_sort l.length) && (l.all (fun r => !r.isEmpty) && (KasT.run' (rc l) (kas_sort l.length)).toList.all (fun i => decide (i < l.length)))))
section
variable {prog : Program} {w : World} {A : Around} {E : Value → Shared → Prop} {s : Shared} {h₀ : Heap} {L R : Addr} {m : Str → Option Value} {news : List (Addr × Obj)}
theorem one_int (b : Bool) {p q : Int} {t u : Tok} {Q : Bool → Shared → Prop} (h : Q (decide (p < q)) s) : wpAny (model prog w) A (oneLt' b (.int p t) (.int q u)) Q E s := by
  cases b with
  | true => exact oneLt_int h
  | false =>
    refine kat_one _ _ ?_
    exact wpAny_lt_int (show PySem.W.BoolBack Q (.bool _) s from h)
theorem kat_rows {b fin : Bool} {Q : Bool → Shared → Prop} : ∀ {xs ys : List Value} {r1 r2 : List Int} {i : Nat}, IntsAre xs r1 → IntsAre ys r2 → fin = decide (xs.length < ys.length) → Q (rlt r1 r2) s → KatLex prog w A b fin Q (xs.zip ys) i s
  | _, _, _, _, i, .nil, .nil, hf, h => by
    subst hf
    exact h
  | _, _, _, _, i, .nil, .cons _ _ _, hf, h => by
    subst hf
    exact h
  | _, _, _, _, i, .cons _ _ _, .nil, hf, h => by
    subst hf
    exact h
  | _, _, _, _, i, .cons p t h1, .cons q u h2, hf, h => by
    rw [List.zip_cons_cons]
    refine kat_cons (wpAny_eqBool_int ?_)
    by_cases e : p = q
    · subst e
      rw [beq_self_eq_true]
      refine kat_yes (kat_rows h1 h2 (by rw [hf]; simp) ?_)
      unfold rlt at h
      rw [if_pos rfl] at h
      exact h
    · rw [beq_eq_false_iff_ne.mpr e]
      refine kat_no (one_int _ ?_)
      unfold rlt at h
      rw [if_neg e] at h
      exact h
theorem kat_tups {L9 : List (Addr × Obj)} (N : News h₀ L s.heap news) (hs : ∀ p ∈ L9, p ∈ news) : ∀ {vs : List Value} {l : List (List Int)}, DatAll L9 vs (l.map rowD) → (∀ r ∈ l, r ≠ []) → ∃ fs, KatTups s.heap vs fs ∧ fs.length = l.length ∧ ∀ f ∈ fs, ∃ i t, f = Value.int i t
  | _, [], hd, _ => by
    cases hd
    exact ⟨[], .nil, rfl, fun f hf => absurd hf List.not_mem_nil⟩
  | _, r :: l, hd, hne => by
    cases hd with
    | cons h1 h2 =>
      obtain ⟨a, us, n, rfl, ha, hi⟩ := row_at N hs h1
      obtain ⟨fs, k1, k2, k3⟩ := kat_tups N hs h2 fun r hr => hne r (.tail _ hr)
      cases hi with
      | nil => exact absurd rfl (hne [] (.head _))
      | cons i t h3 =>
        refine ⟨.int i t :: fs, .cons ha rfl rfl rfl k1, by simp [k2], List.forall_mem_cons.mpr ⟨⟨i, t, rfl⟩, k3⟩⟩
theorem row_getD {L9 : List (Addr × Obj)} {vs : List Value} {ls : List (List Int)} (hd : DatAll L9 vs (ls.map rowD)) {i : Nat} (hi : i < ls.length) : DatIn L9 (vs.getD i Value.none) (rowD (ls.getD i [])) := by
  obtain ⟨v, hv, h⟩ := hd.get (k := i) (by simpa using hi)
  rw [List.getD_eq_getElem?_getD, hv, List.getD_eq_getElem?_getD, List.getElem?_eq_getElem hi]
  simpa using h
theorem row_pick {L9 : List (Addr × Obj)} {vs : List Value} {ls : List (List Int)} (hd : DatAll L9 vs (ls.map rowD)) : ∀ {p : List Nat}, (∀ i ∈ p, i < ls.length) → DatAll L9 (p.map fun i => vs.getD i Value.none) ((p.map fun i => ls.getD i []).map rowD)
  | [], _ => .nil
  | i :: p, h => .cons (row_getD hd (h i (.head _))) (row_pick hd fun j hj => h j (.tail _ hj))
theorem my_sort_long {L9 : List (Addr × Obj)} {l : Addr} {vs : List Value} {n : Nat} {ls : List (List Int)} {Q : Value → Shared → Prop} (F : Fr h₀ L s.heap m) (N : News h₀ L s.heap news) (hm : (l, listOf vs.toArray n) ∈ news) (hs : ∀ p ∈ L9, p ∈ news) (hd : DatAll L9 vs (ls.map rowD))
    (h2 : 2 ≤ ls.length) (hok : srtOk ls = true)
    (h : ∀ D vs' c h', Fr h₀ L h' m → News h₀ L h' ((D, listOf vs'.toArray c) :: news) → (∀ q ∈ news, q.1 < D) → DatAll L9 vs' ((srt ls).map rowD) → Q (.ref D) { s with heap := h' }) :
    wpAny (model prog w) A (call (.builtin "sorted") [.ref l]) Q E s := by
  have hlen : vs.length = ls.length := by simpa using hd.length
  unfold srtOk at hok
  rw [decide_eq_false (by omega)] at hok
  simp only [Bool.false_or, Bool.and_eq_true, decide_eq_true_eq, List.all_eq_true] at hok
  obtain ⟨o1, o2, o3, o4⟩ := hok
  refine kat_sorted F N ⟨_, (N _ hm).1, rfl, n, rfl⟩ (by omega) (by omega) fun D e1 h' F' N' lt => ?_
  have hs' : ∀ p ∈ L9, p ∈ (D, seqObj "list" #[] e1) :: news := fun p hp => .tail _ (hs p hp)
  obtain ⟨fs, k1, k2, k3⟩ := kat_tups (s := { s with heap := h' }) N' hs' hd fun r hr e => by
    have := o3 r hr
    subst e
    simp at this
  refine kat_kind (T := .type "int") k1 (by omega) (fun v hv => ?_) (by decide +kernel) ?_
  · obtain ⟨i, t, rfl⟩ := k3 v hv
    exact .now
  · rw [hlen]
    refine kas_pure (n := ls.length) (c := rc ls) (fun i j C hi hj hc => ?_) _ o2 ?_
    · unfold kas_ask
      obtain ⟨a, xs, n1, ea, ha, ia⟩ := row_at N' hs' (row_getD hd hi)
      obtain ⟨b, ys, n2, eb, hb, ib⟩ := row_at N' hs' (row_getD hd hj)
      rw [ea, eb]
      exact kat_lt ha rfl hb rfl (kat_rows ia ib (by simp) hc)
    · refine KasFin.intro F' N' (.head fun p hp => Nat.ne_of_lt (lt p hp)) fun h2 c F2 N2 => ?_
      refine h D _ c h2 F2 N2 lt ?_
      unfold srt
      rw [if_neg (by omega)]
      exact row_pick hd o4
theorem my_sort_short {L9 : List (Addr × Obj)} {l : Addr} {vs : List Value} {n : Nat} {ls : List (List Int)} {Q : Value → Shared → Prop} (F : Fr h₀ L s.heap m) (N : News h₀ L s.heap news) (hm : (l, listOf vs.toArray n) ∈ news) (hd : DatAll L9 vs (ls.map rowD))
    (h2 : ls.length < 2)
    (h : ∀ D vs' c h', Fr h₀ L h' m → News h₀ L h' ((D, listOf vs'.toArray c) :: news) → (∀ q ∈ news, q.1 < D) → DatAll L9 vs' ((srt ls).map rowD) → Q (.ref D) { s with heap := h' }) :
    wpAny (model prog w) A (call (.builtin "sorted") [.ref l]) Q E s := by
  have hlen : vs.length = ls.length := by simpa using hd.length
  have hl : s.heap.IsList l vs.toArray := ⟨_, (N _ hm).1, rfl, n, rfl⟩
  have es : srt ls = ls := by unfold srt; rw [if_pos h2]
  rw [es] at h
  refine Calls.call_function_entry kind_sorted plain_sorted entry_sorted (args_sorted1 _) ?_
  unfold Builtin.«sorted»
  refine wpAny_bind (m := checkCount "sorted" 1 1 _) (wpAny_pure ?_)
  refine wpAny_bind (collect_list hl ?_ (by rw [PySem.sizeLine_eq]; omega))
  refine wpAny_bind (wpAny_newList ?_ (by rw [PySem.sizeLine_eq]; omega))
  have hsz : ((s.heap.push (seqObj "list" #[] 0)).update s.heap.objs.size (Obj.mapSeq (· ++ vs.toArray))).objs.size = s.heap.objs.size + 1 := by
    rw [Heap.size_update, size_push']
  have hoL : (((s.heap.push (seqObj "list" #[] 0)).update s.heap.objs.size (Obj.mapSeq (· ++ vs.toArray))).push (seqObj "list" vs.toArray 0)).get? (s.heap.objs.size + 1) = some (seqObj "list" vs.toArray 0) := by
    rw [← hsz]; exact Heap.get?_push_size _ rfl
  have keep : ∀ b o, s.heap.get? b = some o → (((s.heap.push (seqObj "list" #[] 0)).update s.heap.objs.size (Obj.mapSeq (· ++ vs.toArray))).push (seqObj "list" vs.toArray 0)).get? b = some o := fun b o q => by
    have hlt : b < s.heap.objs.size := Heap.lt_size q
    rw [Heap.get?_push_ne _ _ _ (by rw [hsz]; exact Nat.ne_of_lt (Nat.lt_succ_of_lt hlt)), Heap.get?_update_ne _ _ _ _ (Nat.ne_of_lt hlt), Heap.get?_push_ne _ _ _ (Nat.ne_of_lt hlt)]
    exact q
  have hL : L < s.heap.objs.size := F.ns.lt
  show wpAny _ _ _ _ _ { s with heap := ((s.heap.push (seqObj "list" #[] 0)).update s.heap.objs.size (Obj.mapSeq (· ++ vs.toArray))).push (seqObj "list" vs.toArray 0) }
  rw [hsz]
  refine wpAny_bind (wpAny_holding (wpAny_call_entry slot_list_sort ⟨_, hoL, rfl⟩ entry_list_sort ?body (args_list_sort _)))
  case body =>
    have F1 := F.kept keep
    have N1 := N.grown keep
    have lt1 : ∀ q ∈ news, q.1 < s.heap.objs.size + 1 := fun q hq => Nat.lt_succ_of_lt (Heap.lt_size (N q hq).1)
    revert hoL F1 N1
    generalize (((s.heap.push (seqObj "list" #[] 0)).update s.heap.objs.size (Obj.mapSeq (· ++ vs.toArray))).push (seqObj "list" vs.toArray 0)) = H1
    intro hoL F1 N1
    have haL : s.heap.objs.size + 1 ≠ L := Nat.ne_of_gt (Nat.lt_succ_of_lt hL)
    have ha0 : h₀.get? (s.heap.objs.size + 1) = none := Heap.get?_none_of_le (Nat.le_trans F.above (Nat.le_succ_of_le (Nat.le_of_lt hL)))
    generalize s.heap.objs.size + 1 = a at *
    rw [list_sort_plain]
    have s1 := Heap.SameBut.update H1 a (Obj.mapSeq fun _ => (#[] : Array Value))
    obtain ⟨e1, ho1⟩ : ∃ e1, (H1.update a (Obj.mapSeq fun _ => (#[] : Array Value))).get? a = some (seqObj "list" #[] e1) := ⟨_, get?_update_seq hoL fun _ => #[]⟩
    refine wpAny_bind (listItems_at hoL rfl ?_)
    refine wpAny_bind (listUpdate_at hoL rfl ?_ (by rw [List.size_toArray, PySem.sizeLine_eq]; omega) (Nat.zero_le _))
    refine wpAny_bind (seqEpoch_at ho1 rfl ?_)
    refine wpAny_bind (wpAny_newTuple ?_ (by show vs.length ≤ _; rw [PySem.sizeLine_eq]; omega))
    refine wpAny_bind (wpAny_newList ?_ (Nat.zero_le _))
    refine wpAny_holding ?_
    have ho6 : (((H1.update a (Obj.mapSeq fun _ => (#[] : Array Value))).push (seqObj "tuple" vs.toArray 0)).push (seqObj "list" #[] 0)).get? a = some (seqObj "list" #[] e1) := Heap.get?_push_of_some _ (Heap.get?_push_of_some _ ho1)
    have F3 : Fr h₀ L (((H1.update a (Obj.mapSeq fun _ => (#[] : Array Value))).push (seqObj "tuple" vs.toArray 0)).push (seqObj "list" #[] 0)) m := ((kas_fr F1 s1 haL ha0).push _).push _
    have N3 : News h₀ L (((H1.update a (Obj.mapSeq fun _ => (#[] : Array Value))).push (seqObj "tuple" vs.toArray 0)).push (seqObj "list" #[] 0)) ((a, seqObj "list" #[] e1) :: news) := fun p hp => by
      rcases List.mem_cons.mp hp with rfl | hp
      · exact ⟨ho6, haL, ha0⟩
      · exact ((kas_news N1 s1 fun p hp => Nat.ne_of_lt (lt1 p hp)).grown fun b x e => Heap.get?_push_of_some _ (Heap.get?_push_of_some _ e)) p hp
    show wpAny (model prog w) _ _ _ _ { s with heap := ((H1.update a (Obj.mapSeq fun _ => (#[] : Array Value))).push (seqObj "tuple" vs.toArray 0)).push (seqObj "list" #[] 0) }
    dsimp only
    have hn2 : vs.toArray.size < 2 := by rw [List.size_toArray]; omega
    rw [if_pos hn2, if_pos hn2]
    refine wpAny_bind (wpAny_pure ?_)
    rw [StateT.run_pure]
    refine wpAny_bind (wpAny_pure ?_)
    dsimp only
    refine wpAny_bind (seqEpoch_at ho6 rfl ?_)
    have eo : (arrOf (SortSt.mk' general' (vs.toArray.zip vs.toArray) #[] 7 none)).map (·.2) = vs.toArray := by
      show (vs.toArray.zip vs.toArray).map (·.2) = vs.toArray
      have e0 : (vs.zip vs).map (·.2) = vs := List.map_snd_zip (Nat.le_refl _)
      simp only [List.zip_toArray, List.map_toArray, e0]
    rw [eo]
    refine wpAny_bind (listUpdate_at ho6 rfl ?_ (Nat.zero_le _) (by rw [List.size_toArray, PySem.sizeLine_eq]; omega))
    show wpAny (model prog w) _ _ _ _ _
    simp only [bne_self_eq_false, Bool.false_eq_true, if_false]
    refine wpAny_pure ⟨_, rfl, wpAny_pure ⟨_, rfl, ?_⟩⟩
    have s2 := Heap.SameBut.update (((H1.update a (Obj.mapSeq fun _ => (#[] : Array Value))).push (seqObj "tuple" vs.toArray 0)).push (seqObj "list" #[] 0)) a (Obj.mapSeq fun _ => vs.toArray)
    obtain ⟨c2, hc2⟩ : ∃ c2, ((((H1.update a (Obj.mapSeq fun _ => (#[] : Array Value))).push (seqObj "tuple" vs.toArray 0)).push (seqObj "list" #[] 0)).update a (Obj.mapSeq fun _ => vs.toArray)).get? a = some (seqObj "list" vs.toArray c2) := ⟨_, get?_update_seq ho6 fun _ => vs.toArray⟩
    refine h a vs c2 _ (kas_fr F3 s2 haL ha0) (fun p hp => ?_) (fun q hq => lt1 q hq) hd
    rcases List.mem_cons.mp hp with rfl | hp
    · exact ⟨hc2, haL, ha0⟩
    · exact (kas_news (fun p hp => N3 p (.tail _ hp)) s2 fun p hp => Nat.ne_of_lt (lt1 p hp)) p hp
end
end Mine
end

section
open PySem PySem.W PyProof.Rows
set_option maxRecDepth 100000
set_option maxHeartbeats 1000000
namespace Mine
section
variable {prog : Program} {w : World} {A : Around} {E : Value → Shared → Prop} {s : Shared} {h₀ : Heap} {L H G : Addr} {m : Str → Option Value} {news L9 L8 : List (Addr × Obj)}
theorem my_ne_eq {vs us : List Value} {n k : Nat} {l l2 : List (List Int)} {Q : Value → Shared → Prop} (N : News h₀ L s.heap news) (hm : (H, listOf vs.toArray n) ∈ news) (hg : (G, listOf us.toArray k) ∈ news)
    (hd : DatAll L9 vs (l.map rowD)) (he : DatAll L8 us (l2.map rowD)) (hs : ∀ p ∈ L9, p ∈ news) (ht : ∀ p ∈ L8, p ∈ news) (hl : l = l2) (hu : A.units + 64 < cLine) (h : Q (.bool false) s) :
    wpAny (model prog w) A (compareOp .NotEq (.ref H) (.ref G)) Q E s := by
  subst hl
  refine kqd_ne (n₂ := L8) N hm rfl rfl hd hs hg rfl rfl he ht (fun d hd => ?_) (fun d hd => ?_) hu ?_
  · obtain ⟨x, _, rfl⟩ := List.mem_map.mp hd
    exact row_ok x
  · obtain ⟨x, _, rfl⟩ := List.mem_map.mp hd
    exact row_ok x
  · have e : ∀ d : Decidable (List.map rowD l = List.map rowD l), (!@decide (List.map rowD l = List.map rowD l) d) = false := by
      intro d
      rw [decide_eq_true (by rfl)]; rfl
    rw [e]; exact h
end
def rowsL (n : Nat) : List (List Int) := (rows 60 n [(0, [])] []).getD []
def laidL (n : Nat) : List (List Int) := (rowsL n).foldl insort []
theorem rows_fact : ∀ n : Fin 13, rows 60 (n.val : Int) [(0, [])] [] = some (rowsL n.val) := by decide +kernel
theorem many_fact : ∀ n : Fin 13, ((rowsL n.val).length : Int) = many n.val := by decide +kernel
theorem many_step : ∀ n : Fin 13, 2 < n.val → many n.val = many (n.val - 2) + many (n.val - 3) := by decide +kernel
theorem row_fact : ∀ n : Fin 13, ∀ r ∈ rowsL n.val, 2 * (r.count 2 : Int) + 3 * (r.count 3 : Int) = n.val ∧ (r.length : Int) = r.count 2 + r.count 3 := by decide +kernel
theorem small_fact : ∀ n : Fin 13, (rowsL n.val).length ≤ 12 := by decide +kernel
theorem srt_ok : ∀ n : Fin 13, srtOk (rowsL n.val) = true := by decide +kernel
theorem srt_fact : ∀ n : Fin 13, laidL n.val = srt (rowsL n.val) := by decide +kernel
theorem uniq_fact : ∀ n : Fin 13, ∀ k, 0 < k → k < (laidL n.val).length → (laidL n.val).getD k [] ≠ (laidL n.val).getD (k - 1) [] := by
  intro n k h1 h2
  have : ∀ n : Fin 13, ∀ k : Fin 13, 0 < k.val → k.val < (laidL n.val).length → (laidL n.val).getD k [] ≠ (laidL n.val).getD (k - 1) [] := by decide +kernel
  have h3 : (laidL n.val).length ≤ 12 := by
    have : ∀ n : Fin 13, (laidL n.val).length ≤ 12 := by decide +kernel
    exact this n
  exact this n ⟨k, by omega⟩ h1 h2
def headed (c : Int) (l : List (List Int)) : List (List Int) := (l.filter fun r => decide (r.take 1 = [c])).map (·.drop 1)
theorem shorter2 : ∀ n : Fin 13, 2 < n.val → headed 2 (laidL n.val) = srt (rowsL (n.val - 2)) := by decide +kernel
theorem shorter3 : ∀ n : Fin 13, 2 < n.val → headed 3 (laidL n.val) = srt (rowsL (n.val - 3)) := by decide +kernel
theorem absQE {σ : Type} {M : Model} {A : Around} {env : Env} {t : Sem Flow} {h₀ : Heap} {L : Addr} {s₁ s : Shared} {Led : σ → List (Addr × Obj)} {ps : σ → List (Str × Value)} {P : σ → Prop} {own : List (Addr × Obj)} {Q : Flow → Shared → Prop} {E : Value → Shared → Prop}
    (h : ∀ (Q : Flow → Shared → Prop) (E : Value → Shared → Prop), PassesOwn M A env E → wpAny M A t (FPost h₀ L s₁ Led ps P own Q) E s) (hE : PassesOwn M A env E) : wpAny M A t (FPost h₀ L s₁ Led ps P own Q) E s := h Q E hE
section
variable {prog : Program} {w : World} {A : Around} {E : Value → Shared → Prop} {s : Shared}
theorem my_mod13 {a : Int} {t u : Tok} {Q : Value → Shared → Prop} (h : ∀ n : Nat, n < 13 → Q (.int (n : Int) s.toks) { s with toks := s.toks + 1 }) : wpAny (model prog w) A (binaryOp .Mod (.int a t) (.int 13 u)) Q E s := by
  refine mod_int' (by decide) ?_
  have hm : 0 ≤ a.fmod 13 ∧ a.fmod 13 < 13 := by
    rw [Int.fmod_eq_emod_of_nonneg _ (by decide)]
    omega
  have e : a.fmod 13 = ((a.fmod 13).toNat : Int) := by omega
  rw [e]
  exact h _ (by omega)
theorem my_neInt {a b : Int} {t u : Tok} {Q : Value → Shared → Prop} (e : a = b) (h : Q (.bool false) s) : wpAny (model prog w) A (compareOp .NotEq (.int a t) (.int b u)) Q E s := by
  refine ne_int ?_
  subst e
  simpa using h
end
theorem tabIn_in {K K' : List Addr} {ps : Array Value} {r r' : Led} (h : TabIn K ps r) (hs : ∀ p ∈ r, p ∈ r') (hk : ∀ p ∈ r, p.1 ∉ K') : TabIn K' ps r' :=
  h.elim .inl fun ⟨c', oc, ovs, qt, e, m, d1, d2, _⟩ => .inr ⟨c', oc, ovs, qt, e, hs _ m, d1, d2, hk _ m⟩
theorem tabIn_sub {K : List Addr} {ps : Array Value} {r r' : Led} (h : TabIn K ps r) (hs : ∀ p ∈ r, p ∈ r') : TabIn K ps r' :=
  h.elim .inl fun ⟨c', oc, ovs, qt, e, m, d1, d2, k⟩ => .inr ⟨c', oc, ovs, qt, e, hs _ m, d1, d2, k⟩
/-- the ledger of the law's turn: the cell, the code table, the rest -/
structure Turn (C S0 : Addr) (ws : List Value) (own : Led) (ps : Array Value) (Z : Led) : Prop where
  zc : ∀ p ∈ Z, p.1 ≠ C
  z9 : ∀ p ∈ Z, p.1 ≠ 99
  c9 : C ≠ 99
  hS : (S0, listOf ws.toArray 0) ∈ Z
  ho : ∀ p ∈ own, p ∈ Z
  ht : TabIn (own.map (·.1)) ps Z
theorem turn_in {C S0 : Addr} {ws : List Value} {own add : Led} {o : Obj} {ps : Array Value} (c9 : C ≠ 99) (hC : C < S0) (h9 : 99 < S0) (ht : TabIn [] ps add) (ha : ∀ p ∈ add, p.1 ≠ C ∧ p.1 ≠ 99)
    (hoff : OwnOff own (((C, o) :: (99, tabObj ps) :: (S0, listOf ws.toArray 0) :: add).map (·.1))) : Turn C S0 ws own ps ((S0, listOf ws.toArray 0) :: (add ++ own)) := by
  refine ⟨?_, ?_, c9, .head _, fun p hp => .tail _ (List.mem_append_right _ hp), tabIn_in ht (fun p hp => .tail _ (List.mem_append_left _ hp)) fun p hp hk => ?_⟩
  · intro p hp
    simp only [List.mem_cons, List.mem_append] at hp
    rcases hp with rfl | hp | hp
    · exact Nat.ne_of_gt hC
    · exact (ha p hp).1
    · exact hoff p hp _ (by simp)
  · intro p hp
    simp only [List.mem_cons, List.mem_append] at hp
    rcases hp with rfl | hp | hp
    · exact Nat.ne_of_gt h9
    · exact (ha p hp).2
    · exact hoff p hp _ (by simp)
  · obtain ⟨q, hq, e⟩ := List.mem_map.mp hk
    exact hoff q hq p.1 (List.mem_map.mpr ⟨p, .tail _ (.tail _ (.tail _ hp)), rfl⟩) e
theorem turn_more {C S0 : Addr} {ws : List Value} {own Z Z' : Led} {ps : Array Value} (t : Turn C S0 ws own ps Z) (hs : ∀ p ∈ Z, p ∈ Z') (h : ∀ p ∈ Z', p ∈ Z ∨ (p.1 ≠ C ∧ p.1 ≠ 99)) : Turn C S0 ws own ps Z' :=
  ⟨fun p hp => (h p hp).elim (t.zc p) (·.1), fun p hp => (h p hp).elim (t.z9 p) (·.2), t.c9, hs _ t.hS, fun p hp => hs _ (t.ho p hp), tabIn_sub t.ht hs⟩
end Mine
end

section
open PySem PySem.W PyProof.Rows
set_option maxRecDepth 100000
set_option maxHeartbeats 1000000
namespace Mine
section
variable {n : Nat} (h : n < 13)
include h
theorem small' : (rowsL n).length ≤ 12 := small_fact ⟨n, h⟩
theorem many' : ((rowsL n).length : Int) = many n := many_fact ⟨n, h⟩
theorem step' (h2 : 2 < n) : many n = many (n - 2) + many (n - 3) := many_step ⟨n, h⟩ h2
theorem row' : ∀ r ∈ rowsL n, 2 * (r.count 2 : Int) + 3 * (r.count 3 : Int) = n ∧ (r.length : Int) = r.count 2 + r.count 3 := row_fact ⟨n, h⟩
theorem srtOk' : srtOk (rowsL n) = true := srt_ok ⟨n, h⟩
theorem srt' : laidL n = srt (rowsL n) := srt_fact ⟨n, h⟩
theorem uniq' : ∀ k, 0 < k → k < (laidL n).length → (laidL n).getD k [] ≠ (laidL n).getD (k - 1) [] := uniq_fact ⟨n, h⟩
theorem sh2' (h2 : 2 < n) : headed 2 (laidL n) = srt (rowsL (n - 2)) := shorter2 ⟨n, h⟩ h2
theorem sh3' (h2 : 2 < n) : headed 3 (laidL n) = srt (rowsL (n - 3)) := shorter3 ⟨n, h⟩ h2
end
section
variable {w : World} {p : Program} {loose : List Str} {mean : ExcName → Option Value} {mg mb : Str → Option Value} {dp un : Nat} {gd : Option (List Code)} {cn : Str} {cs : Scope} {a : Addr} {ccd : Value} {cl : List (Str × Addr)} {outer : List Env} {A₀ : Around} {base h₀ : Heap} {L : Addr} {m : Str → Option Value} {s : Shared} {Q E : Value → Shared → Prop}
  {C S0 : Addr} {ws : List Value} {own Z : Led} {ps : Array Value} {o : Obj}
theorem many_use {N : Nat} {k : Int} {t : Tok} (B : Below A₀ base outer h₀) (F : Fr h₀ L s.heap m) (X : (hd.heap_39 w.params).In h₀) (N' : News h₀ L s.heap ((C, o) :: (99, tabObj ps) :: Z)) (T : Top p loose mean mg mb h₀) (tn : Turn C S0 ws own ps Z) (CH : CodeHd base 103 99) (hk : cs.kind = .function) (hdp : dp + 12 < recursionLimit) (hun : un + 300 < cLine)
    (hkN : k = (N : Int)) (hN : N ≤ 100) {v0 : Option Value} (hc : o.data = .cell v0)
    (h : ∀ h' tk' tok ps' Z', s.toks ≤ tk' → Fr h₀ L h' m → News h₀ L h' ((C, o) :: (99, tabObj ps') :: Z') → Turn C S0 ws own ps' Z' → (∀ p ∈ Z, p ∈ Z') → Q (.int (many N) tok) { s with heap := h', toks := tk' }) :
    wpAny (model PR w) (ktrTop dp un gd cn cs L a ccd cl outer) (call (.ref 104) [.int k t]) Q E s := by
  refine specC_use (many_spec w k N t ps ((C, o) :: Z) (own.map (·.1)) hkN hN (tabIn_sub tn.ht fun p hp => .tail _ hp) ?_ (List.forall_mem_cons.mpr ⟨tn.c9, tn.z9⟩)) B F X (fun p hp => N' p ?_) T CH hk hdp hun ?_
  · intro b hb
    obtain ⟨q, hq, rfl⟩ := List.mem_map.mp hb
    exact ⟨q.2, .tail _ (tn.ho q hq)⟩
  · rcases List.mem_cons.mp hp with rfl | hp
    · exact .tail _ (.head _)
    · rcases List.mem_cons.mp hp with rfl | hp
      · exact .head _
      · exact .tail _ (.tail _ hp)
  · rintro r h' tk' news' hle F1 N1 ⟨tok, ps', add, rfl, rfl, ht, ha⟩
    refine h h' tk' tok ps' (add ++ Z) hle F1 (fun p hp => N1 p ?_) ⟨?_, ?_, tn.c9, List.mem_append_right _ tn.hS, fun p hp => List.mem_append_right _ (tn.ho p hp), ?_⟩ fun p hp => List.mem_append_right _ hp
    · simp only [List.mem_cons, List.mem_append] at hp ⊢
      rcases hp with hp | hp | hp | hp
      · exact .inr (.inr (.inl hp))
      · exact .inl hp
      · exact .inr (.inl hp)
      · exact .inr (.inr (.inr hp))
    · intro p hp
      rcases List.mem_append.mp hp with hp | hp
      · exact Nat.ne_of_gt ((ha p hp).2 _ (.head _))
      · exact tn.zc p hp
    · intro p hp
      rcases List.mem_append.mp hp with hp | hp
      · exact Nat.ne_of_gt (ha p hp).1
      · exact tn.z9 p hp
    · refine ht.elim .inl fun ⟨c', oc, ovs, qt, e, m1, d1, d2, k1⟩ => ?_
      simp only [List.mem_append, List.mem_cons] at m1
      rcases m1 with m1 | m1 | m1
      · exact .inr ⟨c', oc, ovs, qt, e, List.mem_append_left _ m1, d1, d2, k1⟩
      · cases m1
        rw [hc] at d1
        cases d1
      · exact .inr ⟨c', oc, ovs, qt, e, List.mem_append_right _ m1, d1, d2, k1⟩
theorem rows_use {n : Nat} {t : Tok} (B : Below A₀ base outer h₀) (F : Fr h₀ L s.heap m) (X : (hd.heap_39 w.params).In h₀) (N' : News h₀ L s.heap ((C, o) :: (99, tabObj ps) :: Z)) (T : Top p loose mean mg mb h₀) (tn : Turn C S0 ws own ps Z) (hk : cs.kind = .function) (hdp : dp + 14 < recursionLimit) (hun : un + 400 < cLine)
    {k : Int} (hkn : k = (n : Int)) (hn : n < 13)
    (h : ∀ h' tk' D vs c add, s.toks ≤ tk' → Fr h₀ L h' m → News h₀ L h' ((C, o) :: (99, tabObj ps) :: (D, listOf vs.toArray c) :: (add ++ Z)) → Turn C S0 ws own ps ((D, listOf vs.toArray c) :: (add ++ Z)) → DatAll add vs ((rowsL n).map rowD) → TokL tk' add → (∀ p ∈ Z, p.1 < D) → (∀ q ∈ Z, ∀ p ∈ add, q.1 < p.1) → Q (.ref D) { s with heap := h', toks := tk' }) :
    wpAny (model PR w) (ktrTop dp un gd cn cs L a ccd cl outer) (call (.ref 97) [.int k t]) Q E s := by
  subst hkn
  refine specT_use (law_rows_spec w (n : Int) t (rowsL n) _ (rows_fact ⟨n, hn⟩)) B F X N' T hk hdp hun ?_
  rintro r h' tk' news' hle F1 N1 ⟨D, vs, c, add, rfl, rfl, hd1, l1, l2, ht⟩
  have n1 : D ≠ C ∧ D ≠ 99 := ⟨Nat.ne_of_gt (l1 _ (.head _)), Nat.ne_of_gt (l1 _ (.tail _ (.head _)))⟩
  have n2 : ∀ p ∈ add, p.1 ≠ C ∧ p.1 ≠ 99 := fun p hp => ⟨Nat.ne_of_gt (l2 _ (.head _) p hp), Nat.ne_of_gt (l2 _ (.tail _ (.head _)) p hp)⟩
  refine h h' tk' D vs c add hle F1 (fun p hp => N1 p ?_) (turn_more tn (fun p hp => .tail _ (List.mem_append_right _ hp)) fun p hp => ?_) hd1 ht (fun p hp => l1 p (.tail _ (.tail _ hp))) fun q hq => l2 q (.tail _ (.tail _ hq))
  · simp only [List.mem_cons, List.mem_append] at hp ⊢
    rcases hp with hp | hp | hp | hp | hp
    · exact .inr (.inr (.inl hp))
    · exact .inr (.inr (.inr (.inl hp)))
    · exact .inl hp
    · exact .inr (.inl hp)
    · exact .inr (.inr (.inr (.inr hp)))
  · simp only [List.mem_cons, List.mem_append] at hp
    rcases hp with rfl | hp | hp
    · exact .inr n1
    · exact .inr (n2 p hp)
    · exact .inl hp
end
end Mine
end

section
open PySem PySem.W PyProof.Rows
set_option maxRecDepth 100000
set_option maxHeartbeats 1000000
namespace Mine
def GEnd {σ : Type} (h₀ : Heap) (L : Addr) (s : Shared) (Led : σ → List (Addr × Obj)) (ps : σ → List (Str × Value)) (R : σ → Prop) (I : Addr) (oI : Obj) (s₂ : Shared) : Prop :=
  ∃ (c' : σ) (h' : Heap) (tk : Nat) (m' : Str → Option Value) (news' : List (Addr × Obj)), s₂ = { s with heap := h', toks := tk } ∧ Fr h₀ L h' m' ∧ News h₀ L h' news' ∧ (I, oI) ∈ news' ∧ (∀ p ∈ Led c', p ∈ news') ∧ (∀ p ∈ Led c', p.1 ≠ I) ∧ (∀ p ∈ ps c', m' p.1 = some p.2) ∧ R c'
def GPost {σ : Type} (h₀ : Heap) (L : Addr) (s : Shared) (Led : σ → List (Addr × Obj)) (ps : σ → List (Str × Value)) (R : σ → Prop) (I : Addr) (oI : Obj) (Q : Flow → Shared → Prop) (f : Flow) (s₂ : Shared) : Prop :=
  match f with
  | .ret v => Q (.ret v) s₂
  | .brk => Q .next s₂
  | _ => GEnd h₀ L s Led ps R I oI s₂
theorem g_end {σ : Type} {h₀ : Heap} {L : Addr} {s : Shared} {Led : σ → List (Addr × Obj)} {ps : σ → List (Str × Value)} {R : σ → Prop} {I : Addr} {oI : Obj} {h' : Heap} {tk : Nat} {m' : Str → Option Value} {news' : List (Addr × Obj)} (c' : σ)
    (F : Fr h₀ L h' m') (N : News h₀ L h' news') (hI : (I, oI) ∈ news') (hn : ∀ p ∈ Led c', p ∈ news') (hw : ∀ p ∈ Led c', p.1 ≠ I) (hk : ∀ p ∈ ps c', m' p.1 = some p.2) (hp : R c') : GEnd h₀ L s Led ps R I oI { s with heap := h', toks := tk } :=
  ⟨c', h', tk, m', news', rfl, F, N, hI, hn, hw, hk, hp⟩
section
variable {prog : Program} {w : World} {A : Around} {E : Value → Shared → Prop} {Q : Flow → Shared → Prop} {s : Shared} {env : Env} {h₀ : Heap} {x : Str} {px : Pos} {body : List Stmt}
def KR (M : Model) (A : Around) (env : Env) (Q : Flow → Shared → Prop) (E : Value → Shared → Prop) (r : Result) (s' : Shared) : Prop :=
  match r with
  | .ok f => Q f s'
  | .error e => cameBackBy M A env E e s'
/-- the walk stops with the loop's own code left open -/
theorem For_K {pos : Pos} {iter : PySem.Expr} 
    (h : wpAny (model prog w) A (eval iter env) (fun xv s₁ => wpAny (model prog w) A (pyIter xv) (fun it s₂ => codeAny (model prog w) A (.forLoop (.Name x px) it body [] env) (KR (model prog w) A env Q E) s₂) E s₁) E s)
    (hs : ∀ x, foldedSetIterable iter env x = pure x := by intro _; rfl) :
    wpAny (model prog w) A (exec (.For (.Name x px) iter body [] pos) env) Q E s := by
  refine wpAny_For (wpAny_mono h (fun xv s₁ h₁ => wpAny_mono h₁ (fun it s₂ (h₂ : codeAny _ _ _ _ _) => ?_) fun _ _ e => e) fun _ _ e => e) hs
  exact codeAny_mono h₂ fun r s' hr => by cases r <;> exact hr
/-- a loop over a list of the ledger, with the count of tokens -/
theorem my_forTT {σ : Type} {l : Addr} {vs : List Value} {nn : Nat} {m₀ : Str → Option Value} {news : List (Addr × Obj)} (Led : σ → List (Addr × Obj)) (ps : σ → List (Str × Value)) (R : Nat → σ → Prop) (c₀ : σ)
    (hh : A.handled = none) (hx : env.kindOf x = some .local) (hp : (env.scope.kind == .class || (env.scope.kind == .module && env.locals != env.globals)) = false) (hE : PassesOwn (model prog w) A env E)
    (F : Fr h₀ env.locals s.heap m₀) (N : News h₀ env.locals s.heap news) (hl : (l, listOf vs.toArray nn) ∈ news) (hn : ∀ p ∈ Led c₀, p ∈ news) (hll : ∀ c, (l, listOf vs.toArray nn) ∈ Led c) (hk : ∀ p ∈ ps c₀, m₀ p.1 = some p.2) (h0 : R 0 c₀)
    (turn : ∀ I oI i v (c : σ) (u : Str → Option Value) h tk, vs[i]? = some v → s.toks ≤ tk → (∀ p ∈ news, p.1 < I) → (∀ p ∈ Led c, p.1 ≠ I) → R i c → Fr h₀ env.locals h (fun y => if y = x then some v else kstB u (ps c) y) → News h₀ env.locals h ((I, oI) :: Led c) →
      wpAny (model prog w) A (execs body env) (GPost h₀ env.locals { s with heap := h, toks := tk } Led ps (R (i + 1)) I oI Q) E { s with heap := h, toks := tk })
    (done : ∀ (c : σ) (u : Str → Option Value) h tk, s.toks ≤ tk → R vs.length c → Fr h₀ env.locals h (kstB u (ps c)) → News h₀ env.locals h (Led c) → Q .next { s with heap := h, toks := tk }) :
    wpAny (model prog w) A (pyIter (.ref l)) (fun it s₂ => codeAny (model prog w) A (.forLoop (.Name x px) it body [] env) (KR (model prog w) A env Q E) s₂) E s := by
  have hl' : s.heap.IsList l vs.toArray := ⟨_, (N _ hl).1, rfl, nn, rfl⟩
  refine wpAny_pyIter_list hl' ?_
  have ltN : ∀ p ∈ news, p.1 < s.heap.objs.size := fun p hp => Heap.lt_size (N p hp).1
  have hIL : s.heap.objs.size ≠ env.locals := Nat.ne_of_gt F.ns.lt
  have hI0 : h₀.get? s.heap.objs.size = none := next_is_new F
  have W := Walks.list (prog := prog) (w := w) (A := A) hh s.heap.objs.size l (Nat.ne_of_lt (ltN _ hl)) vs.toArray
  have hst := (show (s.heap.push { cls := .type "list_iterator", data := .fields #[.ref l, .int 0 0] }).IsListIter s.heap.objs.size l 0 from ⟨_, Heap.get?_push_size s.heap rfl, rfl, rfl⟩)
  generalize hI : s.heap.objs.size = I at *
  refine codeAny_forLoop (fun k s' => ∃ i c h tk m', s' = { s with heap := h, toks := tk } ∧ s.toks ≤ tk ∧ h.IsListIter I l i ∧ Fr h₀ env.locals h m' ∧ News h₀ env.locals h (Led c) ∧ (∀ p ∈ Led c, p.1 ≠ I) ∧ (∀ p ∈ ps c, m' p.1 = some p.2) ∧ R i c ∧ i ≤ vs.length ∧ k = vs.length - i) ?_ vs.length
    ⟨0, c₀, _, _, m₀, rfl, Nat.le_refl _, hst, F.push _, fun p hp => ⟨Heap.get?_push_of_some _ (N p (hn p hp)).1, (N p (hn p hp)).2⟩, fun p hp => Nat.ne_of_lt (ltN p (hn p hp)), hk, h0, Nat.zero_le _, rfl⟩
  rintro k s' ⟨i, c, h, tk, m', rfl, hle, hit, F1, N1, a1, k1, r1, hi, rfl⟩
  have isl : h.IsList l vs.toArray := ⟨_, (N1 _ (hll c)).1, rfl, nn, rfl⟩
  have keepF : ∀ h₁ : Heap, (∀ b o, b ∉ [I] → h.get? b = some o → h₁.get? b = some o) → Fr h₀ env.locals h₁ m' ∧ News h₀ env.locals h₁ (Led c) := fun h₁ hk₁ =>
    ⟨⟨F1.ns.at' fun o e => hk₁ _ o (fun q => hIL (List.mem_singleton.mp q).symm) e, fun b o e => hk₁ b o (fun q => by rw [List.mem_singleton.mp q, hI0] at e; cases e) (F1.keep b o e), F1.above⟩,
      fun p hp => ⟨hk₁ _ _ (fun q => a1 p hp (List.mem_singleton.mp q)) (N1 p hp).1, (N1 p hp).2⟩⟩
  by_cases hlt : i < vs.length
  · refine any_freeQ (W.item i _ _ _ (by simpa using hlt) ⟨hit, isl⟩ fun v h₁ tk₁ hP st1 hk₁ hle1 => ?_)
    obtain ⟨F2, N2⟩ := keepF h₁ hk₁
    have hv : vs[i]? = some v := by simpa using hP
    obtain ⟨oI, hoI, c1, d1⟩ := st1.1
    refine wpAny_assign_Name (wpAny_storeName_local hx F2.ns (fun h₂ hn₂ hs₂ => ?_) hp)
    have F3 := F2.set hn₂ hs₂
    have hoI2 : h₂.get? I = some oI := (hs₂.2 _ hIL).trans hoI
    have N3 : News h₀ env.locals h₂ ((I, oI) :: Led c) := fun p hp => by
      rcases List.mem_cons.mp hp with rfl | hp
      · exact ⟨hoI2, hIL, hI0⟩
      · exact (N2.set hs₂) p hp
    refine any_freeQ (wpAny_mono (wpAny_passesOwn hE (turn I oI i v c m' h₂ (tk₁ + 1) hv (Nat.le_trans hle (Nat.le_succ_of_le hle1)) ltN a1 r1 (fr_kst1 k1 F3) N3)) (fun f s₃ h₃ hle3 => ?_) fun _ _ e => e)
    have up : GEnd h₀ env.locals { s with heap := h₂, toks := tk₁ + 1 } Led ps (R (i + 1)) I oI s₃ → ∃ m, m < vs.length - i ∧ ∃ i c h tk m', s₃ = { s with heap := h, toks := tk } ∧ s.toks ≤ tk ∧ h.IsListIter I l i ∧ Fr h₀ env.locals h m' ∧ News h₀ env.locals h (Led c) ∧ (∀ p ∈ Led c, p.1 ≠ I) ∧ (∀ p ∈ ps c, m' p.1 = some p.2) ∧ R i c ∧ i ≤ vs.length ∧ m = vs.length - i := by
      rintro ⟨c', h', tk', m2, news2, rfl, F4, N4, hI4, hn4, hw4, hk4, hr4⟩
      refine ⟨vs.length - (i + 1), by omega, i + 1, c', h', tk', m2, rfl, ?_, ⟨oI, (N4 _ hI4).1, c1, d1⟩, F4, fun p hp => N4 p (hn4 p hp), hw4, hk4, hr4, hlt, rfl⟩
      exact Nat.le_trans hle (Nat.le_trans (Nat.le_succ_of_le hle1) hle3)
    cases f with
    | ret v => exact h₃
    | brk => exact h₃
    | next => exact up h₃
    | cont => exact up h₃
  · have e : i = vs.length := by omega
    subst e
    refine any_freeQ (W.done _ _ _ (by simpa using ⟨hit, isl⟩) fun h₁ tk₁ hk₁ hle1 => wpAny_execs_nil ?_)
    obtain ⟨F2, N2⟩ := keepF h₁ hk₁
    exact done c m' h₁ tk₁ (Nat.le_trans hle hle1) r1 (fr_kst k1 F2) N2
end
theorem row_get {L9 : List (Addr × Obj)} {vs : List Value} {l : List (List Int)} {i : Nat} {v : Value} (hd : DatAll L9 vs (l.map rowD)) (h : vs[i]? = some v) : ∃ a r, v = .ref a ∧ l[i]? = some r ∧ DatIn L9 (.ref a) (rowD r) := by
  have hlen : vs.length = l.length := by simpa using hd.length
  have hi : i < vs.length := (List.getElem?_eq_some_iff.mp h).1
  obtain ⟨v', hv', hd'⟩ := hd.get (k := i) (by simpa using hlen ▸ hi)
  rw [h] at hv'
  cases hv'
  have e : (l.map rowD)[i]'(by simpa using hlen ▸ hi) = rowD (l[i]'(hlen ▸ hi)) := by simp
  rw [e] at hd'
  obtain ⟨a, rfl⟩ := ref_of hd'
  exact ⟨a, _, rfl, List.getElem?_eq_getElem _, hd'⟩
theorem insortH (w : World) (H : Addr) (vs : List Value) (n : Nat) (L9 : Led) (l : List (List Int)) (x : Addr) (r : List Int) (hd : DatAll L9 vs (l.map rowD)) (hx : DatIn L9 (.ref x) (rowD r)) (hz : l.length ≤ 1000) :
    SpecH w 32 6 120 [.ref H, .ref x] H (listOf vs.toArray n) L9 (fun r' o' => r' = .none ∧ ∃ vs', o' = listOf vs'.toArray (n + 1) ∧ DatAll L9 vs' ((insort l r).map rowD)) := fun rest ho hs9 =>
  (insort_spec w H vs n rest L9 l x r ho hs9 hd hx hz).mono fun _ _ ⟨h1, vs', h3, h4⟩ => ⟨_, h3, h1, vs', rfl, h4⟩
section
variable {w : World} {p : Program} {loose : List Str} {mean : ExcName → Option Value} {mg mb : Str → Option Value} {dp un : Nat} {gd : Option (List Code)} {cn : Str} {cs : Scope} {a : Addr} {ccd : Value} {cl : List (Str × Addr)} {outer : List Env} {A₀ : Around} {base h₀ : Heap} {L : Addr} {m : Str → Option Value} {s : Shared} {Q E : Value → Shared → Prop}
theorem insort_use {H x : Addr} {vs : List Value} {n : Nat} {l : List (List Int)} {r : List Int} {L9 news : Led} {g : Obj → Led}
    (B : Below A₀ base outer h₀) (F : Fr h₀ L s.heap m) (X : (hd.heap_39 w.params).In h₀) (N : News h₀ L s.heap news) (U : UpdF H (listOf vs.toArray n) news g) (hd : DatAll L9 vs (l.map rowD)) (hx : DatIn L9 (.ref x) (rowD r)) (hz : l.length ≤ 1000)
    (hL : ∀ p ∈ L9, p ∈ news) (hne : ∀ p ∈ L9, p.1 ≠ H) (T : Top p loose mean mg mb h₀) (hk : cs.kind = .function) (hdp : dp + 6 < recursionLimit) (hun : un + 120 < cLine)
    (h : ∀ h' tk' vs2, s.toks ≤ tk' → Fr h₀ L h' m → News h₀ L h' (g (listOf vs2.toArray (n + 1))) → DatAll L9 vs2 ((insort l r).map rowD) → Q .none { s with heap := h', toks := tk' }) :
    wpAny (model PR w) (ktrTop dp un gd cn cs L a ccd cl outer) (call (.ref 32) [.ref H, .ref x]) Q E s := by
  refine spec_useH (insortH w H vs n L9 l x r hd hx hz) B F X N U hL hne T hk hdp hun ?_
  rintro r' h' tk' o' hle F' N' ⟨rfl, vs', rfl, hd'⟩
  exact h h' tk' vs' hle F' N' hd'
theorem count_use {x : Addr} {r : List Int} {k : Int} {u : Tok} {T9 : Nat} {L9 news : Led}
    (B : Below A₀ base outer h₀) (F : Fr h₀ L s.heap m) (X : (hd.heap_39 w.params).In h₀) (N : News h₀ L s.heap news) (hx : DatIn L9 (.ref x) (rowD r)) (hL : ∀ p ∈ L9, p ∈ news) (ht : TokL T9 L9) (hu : T9 ≤ u) (hk0 : smallInt k = true)
    (T : Top p loose mean mg mb h₀) (hk : cs.kind = .function) (hdp : dp + 3 < recursionLimit) (hun : un + 60 < cLine)
    (h : ∀ h' tk' tok, s.toks ≤ tk' → Fr h₀ L h' m → News h₀ L h' news → Q (.int (r.count k : Int) tok) { s with heap := h', toks := tk' }) :
    wpAny (model PR w) (ktrTop dp un gd cn cs L a ccd cl outer) (call (.ref 90) [.ref x, .int k u]) Q E s := by
  obtain ⟨us, j, hm, hi, htk⟩ := row_tok ht hx
  refine any_freeQ (spec_use (countOf_spec w x us j r k u news (hL _ hm) hi (fun i tt hmem => ?_) hk0) B F X N T hk hdp hun ?_)
  · have := htk i tt hmem
    exact ⟨this.1, Nat.lt_of_lt_of_le this.2 hu⟩
  · rintro r' h' tk' news' F' N' ⟨tok, rfl, rfl⟩ hle
    exact h h' tk' tok hle F' N'
end
end Mine
end

section
open PySem PySem.W PyProof.Rows
set_option maxRecDepth 100000
set_option maxHeartbeats 1000000
namespace Mine
def Sub (K Z : Led) : Prop := ∀ p ∈ K, p ∈ Z
section
variable {w : World} {p : Program} {loose : List Str} {mean : ExcName → Option Value} {mg mb : Str → Option Value} {dp un : Nat} {gd : Option (List Code)} {cn : Str} {cs : Scope} {a : Addr} {ccd : Value} {cl : List (Str × Addr)} {outer : List Env} {A₀ : Around} {base h₀ : Heap} {L : Addr} {m : Str → Option Value} {s : Shared} {Q E : Value → Shared → Prop}
  {C S0 : Addr} {ws : List Value} {own Z K : Led} {ps : Array Value} {o : Obj}
theorem many_use2 {k : Int} {t : Tok} (B : Below A₀ base outer h₀) (F : Fr h₀ L s.heap m) (X : (hd.heap_39 w.params).In h₀) (N' : News h₀ L s.heap ((C, o) :: (99, tabObj ps) :: Z)) (T : Top p loose mean mg mb h₀) (tn : Turn C S0 ws own ps Z) (hsub : Sub K Z) (CH : CodeHd base 103 99) (hk : cs.kind = .function) (hdp : dp + 12 < recursionLimit) (hun : un + 300 < cLine)
    (hk0 : 0 ≤ k) (hkN : k ≤ 100) {v0 : Option Value} (hc : o.data = .cell v0)
    (h : ∀ h' tk' tok ps' Z', s.toks ≤ tk' → Fr h₀ L h' m → News h₀ L h' ((C, o) :: (99, tabObj ps') :: Z') → Turn C S0 ws own ps' Z' → Sub K Z' → (∀ p ∈ (99, tabObj ps') :: Z', p.1 ≠ C) → Q (.int (many k.toNat) tok) { s with heap := h', toks := tk' }) :
    wpAny (model PR w) (ktrTop dp un gd cn cs L a ccd cl outer) (call (.ref 104) [.int k t]) Q E s :=
  many_use B F X N' T tn CH hk hdp hun (show k = (k.toNat : Int) by omega) (by omega) hc fun h' tk' tok ps' Z' hle F1 N1 t1 s1 => h h' tk' tok ps' Z' hle F1 N1 t1 (fun p hp => s1 p (hsub p hp)) (List.forall_mem_cons.mpr ⟨fun e => t1.c9 e.symm, t1.zc⟩)
end
section
variable {prog : Program} {w : World} {A : Around} {E : Value → Shared → Prop} {s : Shared} {h₀ : Heap} {L : Addr} {m : Str → Option Value} {news L9 : List (Addr × Obj)}
theorem my_lenT {x : Addr} {r : List Int} {Q : Value → Shared → Prop} (N : News h₀ L s.heap news) (hL : ∀ p ∈ L9, p ∈ news) (hx : DatIn L9 (.ref x) (rowD r)) (hz : r.length ≤ 1000) (h : Q (.int (r.length : Int) (s.toks + 1)) { s with toks := s.toks + 1 + 1 }) :
    wpAny (model prog w) A (call (.builtin "len") [.ref x]) Q E s := by
  obtain ⟨y, vs, n, e, hx, hi⟩ := row_at N hL hx
  cases e
  exact kun_lenT (items := vs.toArray) ⟨_, hx, rfl, n, rfl⟩ (by rw [List.size_toArray, hi.length]) (by omega) h
end
section
variable {prog : Program} {w : World} {A : Around} {E : Value → Shared → Prop} {s : Shared} {h₀ : Heap} {L : Addr} {m : Str → Option Value} {news L9 : List (Addr × Obj)}
theorem my_sorted {l : Addr} {vs : List Value} {n : Nat} {ls : List (List Int)} {Q : Value → Shared → Prop} (F : Fr h₀ L s.heap m) (N : News h₀ L s.heap news) (hm : (l, listOf vs.toArray n) ∈ news) (hs : ∀ p ∈ L9, p ∈ news) (hd : DatAll L9 vs (ls.map rowD)) (hok : srtOk ls = true)
    (h : ∀ D vs' c h', Fr h₀ L h' m → News h₀ L h' ((D, listOf vs'.toArray c) :: news) → (∀ q ∈ news, q.1 < D) → DatAll L9 vs' ((srt ls).map rowD) → Q (.ref D) { s with heap := h' }) :
    wpAny (model prog w) A (call (.builtin "sorted") [.ref l]) Q E s := by
  rcases Nat.lt_or_ge ls.length 2 with h2 | h2
  · exact my_sort_short F N hm hd h2 h
  · exact my_sort_long F N hm hs hd h2 hok h
end
theorem insort_len (l : List (List Int)) (r : List Int) : (insort l r).length = l.length + 1 := by
  have := bisect_le r l
  unfold insort
  simp
  omega
theorem fold_len : ∀ (xs acc : List (List Int)), (xs.foldl insort acc).length = acc.length + xs.length
  | [], acc => by simp
  | x :: xs, acc => by
    rw [List.foldl_cons, fold_len xs, insort_len, List.length_cons]
    omega
theorem fold_small {n i : Nat} (h : n < 13) : (((rowsL n).take i).foldl insort []).length ≤ 12 := by
  rw [fold_len, List.length_take, List.length_nil]
  have := small' h
  omega
end Mine
end

section
open PySem PySem.W PyProof.Rows PySem.Calls PySem.Spec
set_option maxRecDepth 100000
set_option maxHeartbeats 1000000
namespace Mine
section
variable {prog : Program} {w : World} {A : Around} {E : Value → Shared → Prop} {s : Shared} {h₀ : Heap} {L : Addr} {m : Str → Option Value} {news L9 L8 : List (Addr × Obj)}
theorem ints_inj : ∀ (r q : List Int), r.map Dat.int = q.map Dat.int → r = q
  | [], [], _ => rfl
  | [], _ :: _, h => by cases h
  | _ :: _, [], h => by cases h
  | a :: r, b :: q, h => by
    rw [List.map_cons, List.map_cons] at h
    injection h with h1 h2
    injection h1 with h1
    rw [h1, ints_inj r q h2]
theorem my_eq_row {a b : Addr} {r q : List Int} {Q : Value → Shared → Prop} (N : News h₀ L s.heap news) (hs : ∀ p ∈ L9, p ∈ news) (ht : ∀ p ∈ L8, p ∈ news) (hd : DatIn L9 (.ref a) (rowD r)) (he : DatIn L8 (.ref b) (rowD q)) (hu : A.units + 64 < cLine)
    (h : Q (.bool (decide (r = q))) s) : wpAny (model prog w) A (compareOp .Eq (.ref a) (.ref b)) Q E s := by
  obtain ⟨as, ra⟩ := kqd_in N 8 (hd.mono hs) (row_ok r)
  obtain ⟨bs, rb⟩ := kqd_in N 8 (he.mono ht) (row_ok q)
  have la := kqd_lay 8 (rowD r) (row_ok r)
  have lb := kqd_lay 8 (rowD q) (row_ok q)
  have inj : rowD r = rowD q ↔ r = q := by
    constructor
    · intro e
      have e2 : r.map Dat.int = q.map Dat.int := by injection e
      exact ints_inj _ _ e2
    · intro e; rw [e]
  have e : PyData.eqv (kqdP (rowD r)) (kqdP (rowD q)) = decide (r = q) := by
    have k := kqd_eqv 8 (rowD r) (rowD q) 8 (row_ok r) (row_ok q)
    by_cases hq : r = q
    · rw [decide_eq_true hq]; exact k.mpr (inj.mpr hq)
    · rw [decide_eq_false hq]; exact Bool.eq_false_iff.mpr fun x => hq (inj.mp (k.mp x))
  refine eq_dataH ra rb ?_ ?_ hu (by rw [e]; exact h)
  · unfold SeqAt.shaped; rw [la.1, Bool.true_and]; exact decide_eq_true (Nat.le_trans la.2 (by decide))
  · unfold SeqAt.shaped; rw [lb.1, Bool.true_and]; exact decide_eq_true (Nat.le_trans lb.2 (by decide))
theorem my_tail {value slice : PySem.Expr} {t : Addr} {r : List Int} {u : Tok} {Q : Value → Shared → Prop} (F : Fr h₀ L s.heap m) (N : News h₀ L s.heap news) (hs0 : ∀ p ∈ L9, p ∈ news) (hd : DatIn L9 (.ref t) (rowD r)) (hr : r ≠ []) (hz : r.length ≤ 1000)
    (h : ∀ y us h', Fr h₀ L h' m → News h₀ L h' ((y, tupO us) :: news) → (∀ p ∈ news, p.1 < y) → IntsAre us (r.drop 1) → Q (.ref y) { s with heap := h' })
    (hs : subscripted slice false (.ref t) (.ref s.heap.objs.size) = operate [.ref s.heap.objs.size, .ref t] (getItem (.ref t) (.ref s.heap.objs.size)) := by with_unfolding_all rfl)
    (hg : ∀ r, letTemporaryGo value (.ref t) r = pure () := by intro _; with_unfolding_all rfl) :
    wpAny (model prog w) A (subscriptTail value slice (.ref t) (.ref s.heap.objs.size)) Q E { s with heap := s.heap.push { cls := .type "slice", data := .fields #[.int 1 u, .none, .none] } } := by
  obtain ⟨a, vs, n, e, ho, hi⟩ := row_at N hs0 hd
  cases e
  have hl : vs.length = r.length := hi.length
  have hp := List.length_pos_iff.mpr hr
  refine slice_tuple_from (a := 1) F N ⟨_, ho, rfl, n, rfl⟩ (Nat.le_refl _) (by rw [List.size_toArray]; omega) (fun h' F' N' => ?_) hs hg (by rw [List.size_toArray, PySem.sizeLine_eq]; omega)
  refine h _ (vs.drop 1) h' F' ?_ (fun p hp => Nat.lt_succ_of_lt (Heap.lt_size (N p hp).1)) ?_
  · simpa using N'
  · cases hi with
    | nil => exact .nil
    | cons i t h9 => exact h9
theorem getItem_head {t sl : Addr} {items : Array Value} {u : Tok} {Q : Value → Shared → Prop} (ht : IsTup s.heap t items) (hs : s.heap.IsSliceOf sl .none (.int 1 u) .none) (ha : 1 ≤ items.size)
    (h1 : items.size = 1 → Q (.ref t) s) (h2 : items.size ≠ 1 → Q (.ref s.heap.objs.size) { s with heap := s.heap.push { cls := .type "tuple", data := .seq (items.toList.take 1).toArray } })
    (hsz : items.size ≤ sizeLine) : wpAny (model prog w) A (getItem (.ref t) (.ref sl)) Q E s := by
  obtain ⟨os, hos, hcs, hds⟩ := id hs
  have hTs : s.TypeIs (.ref sl) "slice" := ⟨os, hos, hcs⟩
  unfold getItem
  try with_reducible refine wpAny_holding ?_
  first | refine wpAny_bind (wpAny_pure ?_) | skip
  refine wpAny_bind (wpAny_sequenceKey ht.typeIs (by decide) ?_)
  refine wpAny_bind (wpAny_callSpecial?_slot (name := Str.ofString "__getitem__") ht.typeIs slot_tuple_getitem
    (wpAny_call_entry slot_tuple_getitem ht.typeIs entry_tuple_getitem ?_ (args_tuple_getitem _ _)))
  show wpAny _ _ (Builtin.Tuple.tupleItemsOf (.ref t) >>= _) _ _ s
  refine wpAny_bind (tupleItemsOf_ ht ?_)
  refine wpAny_bind (wpAny_typeOf hTs ?_)
  rw [if_pos (by decide)]
  refine wpAny_bind (m := Builtin.Slice.sliceApplied (.ref sl) (pure (items.size : Int))) ?_
  unfold Builtin.Slice.sliceApplied Builtin.Slice.sliceFields
  refine wpAny_bind (wpAny_bind (wpAny_field hos hds (x := .none) rfl (wpAny_bind (wpAny_field hos hds (x := .int 1 u) rfl (wpAny_bind (wpAny_field hos hds (x := .none) rfl (wpAny_pure ?_)))))))
  refine wpAny_bind (slicePart_none ?_)
  show wpAny _ _ (if ((1 : Int) == 0) = true then _ else _) _ _ s
  rw [if_neg (by decide)]
  refine wpAny_bind (slicePart_none (wpAny_bind (slicePart_int (wpAny_bind (wpAny_pure ?_)))))
  have ea : Builtin.Slice.sliceAdjust none (some 1) 1 (items.size : Int) = ((0 : Int), (1 : Int)) := by
    unfold Builtin.Slice.sliceAdjust
    have h1 : ¬ ((1 : Int) < 0) := by omega
    simp only [h1, if_false]
    congr 1
    omega
  show wpAny _ _ (match Builtin.Slice.sliceAdjust none (some 1) 1 (items.size : Int) with | (lo, hi) => pure (lo, (1 : Int), Builtin.Slice.slicePlaces lo hi 1)) _ _ s
  rw [ea]
  have ep : Builtin.Slice.slicePlaces (0 : Int) 1 1 = 1 := by decide
  show wpAny _ _ (pure ((0 : Int), (1 : Int), Builtin.Slice.slicePlaces (0 : Int) 1 1)) _ _ s
  rw [ep]
  refine wpAny_pure ?_
  show wpAny _ _ (if ((0 : Int) == 0 && (1 : Int) == 1 && 1 == items.size) = true then _ else _) _ _ s
  by_cases e1 : items.size = 1
  · rw [if_pos (by rw [e1]; rfl)]
    refine wpAny_bind (m := Builtin.Tuple.tupleIsExact _) (wpAny_bind (wpAny_typeOf ht.typeIs (wpAny_pure ?_)))
    rw [if_pos (by decide)]
    exact wpAny_bind (wpAny_rule (wpAny_pure ⟨_, rfl, wpAny_pure (h1 e1)⟩))
  · rw [if_neg (by simp; omega)]
    have e2 : ((List.range 1).filterMap fun (k : Nat) => items[((0 : Int) + (k : Int) * 1).toNat]?).toArray = (items.toList.take 1).toArray := by
      have hz : 0 < items.size := ha
      have hz2 : (0 : Nat) < items.toList.length := by simpa using hz
      obtain ⟨x, hx⟩ : ∃ x, items[0]? = some x := ⟨items[0], by simp [hz]⟩
      have h3 : items.toList.take 1 = [x] := by
        have : items.toList[0]? = some x := by simpa using hx
        cases hl : items.toList with
        | nil => rw [hl] at this; cases this
        | cons y l => rw [hl] at this; cases this; rfl
      rw [h3]
      show (List.filterMap _ [0]).toArray = _
      simp [hx]
    have hk : sizeOk (.seq (items.toList.take 1).toArray) := by
      show (items.toList.take 1).toArray.size ≤ sizeLine
      rw [List.size_toArray, List.length_take]
      omega
    rw [e2]
    first
      | exact wpAny_bind (m := Builtin.Tuple.tupleExact _) (wpAny_newObj_type (wpAny_pure ⟨_, rfl, wpAny_pure (h2 e1)⟩) hk)
      | exact wpAny_bind (wpAny_bind (m := Builtin.Tuple.tupleExact _) (wpAny_newObj_type (wpAny_pure (wpAny_pure ⟨_, rfl, wpAny_pure (h2 e1)⟩)) hk))
      | exact wpAny_bind (wpAny_bind (m := Builtin.Tuple.tupleExact _) (wpAny_newObj_type (wpAny_pure ⟨_, rfl, wpAny_pure (h2 e1)⟩) hk))
theorem my_head {value slice : PySem.Expr} {t : Addr} {r : List Int} {u : Tok} {Q : Value → Shared → Prop} (F : Fr h₀ L s.heap m) (N : News h₀ L s.heap news) (hs0 : ∀ p ∈ L9, p ∈ news) (hd : DatIn L9 (.ref t) (rowD r)) (hr : r ≠ []) (hz : r.length ≤ 1000)
    (h : ∀ y us n h', Fr h₀ L h' m → News h₀ L h' ((y, ({ cls := .type "tuple", data := .seq us.toArray n } : Obj)) :: news) → IntsAre us (r.take 1) → Q (.ref y) { s with heap := h' })
    (hs : subscripted slice false (.ref t) (.ref s.heap.objs.size) = operate [.ref s.heap.objs.size, .ref t] (getItem (.ref t) (.ref s.heap.objs.size)) := by with_unfolding_all rfl)
    (hg : ∀ r, letTemporaryGo value (.ref t) r = pure () := by intro _; with_unfolding_all rfl) :
    wpAny (model prog w) A (subscriptTail value slice (.ref t) (.ref s.heap.objs.size)) Q E { s with heap := s.heap.push { cls := .type "slice", data := .fields #[.none, .int 1 u, .none] } } := by
  obtain ⟨a, vs, n, e, ho, hi⟩ := row_at N hs0 hd
  cases e
  have hl : vs.length = r.length := hi.length
  have hp := List.length_pos_iff.mpr hr
  have ht : IsTup s.heap t vs.toArray := ⟨_, ho, rfl, n, rfl⟩
  have ht' : IsTup (s.heap.push { cls := .type "slice", data := .fields #[.none, .int 1 u, .none] }) t vs.toArray := ht.keeps fun _ _ e => Heap.get?_push_of_some _ e
  have N0 : News h₀ L (s.heap.push { cls := .type "slice", data := .fields #[.none, .int 1 u, .none] }) news := N.grown fun _ _ e => Heap.get?_push_of_some _ e
  have hmem : (t, ({ cls := .type "tuple", data := .seq vs.toArray n } : Obj)) ∈ news := by
    cases hd with
    | @tuple a vs2 n2 _ hm hr2 =>
      have h3 := (N _ (hs0 _ hm)).1
      rw [ho] at h3
      have := hs0 _ hm
      cases h3
      exact this
  refine subscriptTail_ops (s := { s with heap := s.heap.push { cls := .type "slice", data := .fields #[.none, .int 1 u, .none] } }) ht'.typeIs slot_tuple_getitem.lookup
    (getItem_head ht' (Heap.IsSliceOf.new ..) (by rw [List.size_toArray]; omega) (fun e1 => ?_) (fun e1 => ?_) (by rw [List.size_toArray, PySem.sizeLine_eq]; omega)) hs hg
  · refine h t vs n _ (F.push _) (List.forall_mem_cons.mpr ⟨N0 _ hmem, N0⟩) ?_
    rw [List.take_of_length_le (by rw [← hl]; rw [List.size_toArray] at e1; omega)]
    exact hi
  · have N1 := News.push (F.push { cls := .type "slice", data := .fields #[.none, .int 1 u, .none] }) N0 { cls := .type "tuple", data := .seq (vs.take 1).toArray }
    refine h _ (vs.take 1) 0 _ ((F.push _).push _) (by simpa using N1) ?_
    cases hi with
    | nil => exact .nil
    | cons i t h9 => exact .cons i t .nil
end
section
variable {prog : Program} {w : World} {A : Around} {h₀ : Heap} {L : Addr} {m : Str → Option Value} {env : Env} {ct elt : PySem.Expr} {x : Str} {scope : Scope} {cl : List (Str × Addr)} {s : Shared} {S : Led → Prop} {P : Nat → Value → Prop} {Fin : List Value → Led → Prop}
open LCg LCt
theorem compEnd_mono {s₁ s₂ : Shared} {I C D : Addr} {oI oC oD : Obj} {R R' : Value → Led → Prop} {y : Value} (h : CompEnd h₀ L m s₁ I oI C oC D oD S R y s₂) (hr : ∀ y news, R y news → R' y news) : CompEnd h₀ L m s₁ I oI C oC D oD S R' y s₂ := by
  obtain ⟨h', tk, news', a, b, c, d, e, f⟩ := h
  exact ⟨h', tk, news', a, b, c, d, e, hr _ _ f⟩
/-- a comprehension with one test, over n items, by an invariant -/
theorem comp_turns (n : Nat) (J : Nat → List Value → Led → Prop)
    (step : ∀ i ys news, i < n → J i ys news → ∀ v I oI C oC D m₂ h tk (E' : Value → Shared → Prop), P i v → NsObj oC m₂ → m₂ x = some v → Fr h₀ L h m → News h₀ L h ((I, oI) :: (C, oC) :: (D, lst ys) :: news) → Off3 I C D news → ((@Ne Nat I C) ∧ (@Ne Nat I D) ∧ (@Ne Nat C D)) →
      wpAny (model prog w) A (isTrue ct (compEnvC scope cl C env) (eval ct (compEnvC scope cl C env))) (fun ok s' => if ok = true then
        wpAny (model prog w) A (eval elt (compEnvC scope cl C env)) (CompEnd h₀ L m { s with heap := h, toks := tk } I oI C oC D (lst ys) S (fun y news' => J (i + 1) (ys ++ [y]) news')) E' s'
        else CompEnd h₀ L m { s with heap := h, toks := tk } I oI C oC D (lst ys) S (fun _ news' => J (i + 1) ys news') Value.none s') E' { s with heap := h, toks := tk })
    (fin : ∀ ys news, J n ys news → Fin ys news) : ∀ (k i : Nat) (ys : List Value) (news : Led), i + k = n → J i ys news → CompRestT prog w A h₀ L m env ct elt x scope cl s S P Fin k i ys news
  | 0, i, ys, news, e, hj => .zero (fin ys news ((show i = n from e) ▸ hj))
  | k + 1, i, ys, news, e, hj => by
    refine .succ fun v I oI C oC D m₂ h tk E' hp hC hx F N off ne => ?_
    refine wpAny_mono (step i ys news (by omega) hj v I oI C oC D m₂ h tk E' hp hC hx F N off ne) (fun ok s' h' => ?_) fun _ _ e => e
    cases ok with
    | true =>
      simp only [if_true] at h' ⊢
      exact wpAny_mono h' (fun y s'' h'' => compEnd_mono h'' fun y news hj' => comp_turns n J step fin k (i + 1) _ _ (by omega) hj') fun _ _ e => e
    | false =>
      simp only [Bool.false_eq_true, if_false] at h' ⊢
      exact compEnd_mono h' fun y news hj' => comp_turns n J step fin k (i + 1) _ _ (by omega) hj'
end
theorem rsmall1 {b : Int} (h0 : 0 ≤ b) (h : b ≤ 1000) : Builtin.Range.small 1 b 1 = true := by
  unfold Builtin.Range.small
  rw [rangeSize_nat]
  simp [Builtin.Range.rangeFitsLong]
  omega
theorem turn_out {C S0 : Addr} {ws : List Value} {own Z add2 : Led} {o2 o : Obj} {ps2 ps : Array Value} (tn : Turn C S0 ws own ps Z) (hoff : OwnOff own (((C, o2) :: (99, tabObj ps2) :: (S0, listOf ws.toArray 0) :: add2).map (·.1))) :
    ∃ add, TabIn [] ps add ∧ (∀ p ∈ add, p ∈ Z) ∧ (∀ p ∈ add, p.1 ≠ C ∧ p.1 ≠ 99) ∧ OwnOff own (((C, o) :: (99, tabObj ps) :: (S0, listOf ws.toArray 0) :: add).map (·.1)) := by
  have base : ∀ p ∈ own, p.1 ≠ C ∧ p.1 ≠ 99 ∧ p.1 ≠ S0 := fun p hp => ⟨hoff p hp _ (by simp), hoff p hp _ (by simp), hoff p hp _ (by simp)⟩
  rcases tn.ht with e | ⟨c', oc, ovs, qt, e, m1, d1, d2, k1⟩
  · refine ⟨[], .inl e, fun _ h => absurd h List.not_mem_nil, fun _ h => absurd h List.not_mem_nil, fun p hp b hb => ?_⟩
    simp only [List.map_cons, List.map_nil, List.mem_cons, List.not_mem_nil, or_false] at hb
    rcases hb with rfl | rfl | rfl
    · exact (base p hp).1
    · exact (base p hp).2.1
    · exact (base p hp).2.2
  · refine ⟨[(c', oc)], .inr ⟨c', oc, ovs, qt, e, .head _, d1, d2, List.not_mem_nil⟩, fun p h => (List.mem_singleton.mp h) ▸ m1, fun p h => ?_, fun p hp b hb => ?_⟩
    · rw [List.mem_singleton.mp h]
      exact ⟨tn.zc _ m1, tn.z9 _ m1⟩
    · simp only [List.map_cons, List.map_nil, List.mem_cons, List.not_mem_nil, or_false] at hb
      rcases hb with rfl | rfl | rfl | rfl
      · exact (base p hp).1
      · exact (base p hp).2.1
      · exact (base p hp).2.2
      · exact fun e => k1 (List.mem_map.mpr ⟨p, hp, e⟩)
theorem headed_pos {c : Int} {l : List (List Int)} {r : List Int} (h : r.take 1 = [c]) : headed c (l ++ [r]) = headed c l ++ [r.drop 1] := by
  unfold headed
  rw [List.filter_append, List.map_append, List.filter_cons, if_pos (decide_eq_true h)]
  rfl
theorem headed_neg {c : Int} {l : List (List Int)} {r : List Int} (h : r.take 1 ≠ [c]) : headed c (l ++ [r]) = headed c l := by
  unfold headed
  rw [List.filter_append, List.map_append, List.filter_cons, if_neg (by simpa using h)]
  simp
theorem laid_fact : ∀ n : Fin 13, 2 < n.val → ∀ r ∈ laidL n.val, r ≠ [] ∧ r.length ≤ 12 := by decide +kernel
theorem laid' {n : Nat} (h : n < 13) (h2 : 2 < n) : ∀ r ∈ laidL n, r ≠ [] ∧ r.length ≤ 12 := laid_fact ⟨n, h⟩ h2
theorem rows_sub {n k : Nat} (h : n < 13) (hk : k ≤ n) : rows 60 ((n : Int) - (k : Int)) [(0, [])] [] = some (rowsL (n - k)) := by
  have e : (n : Int) - (k : Int) = ((n - k : Nat) : Int) := by omega
  rw [e]
  exact rows_fact ⟨n - k, by omega⟩
theorem news_shuf {h₀ h : Heap} {L : Addr} {D : Addr × Obj} {a Z : Led} (K : Led) (N : News h₀ L h (D :: (a ++ (K ++ Z)))) : News h₀ L h (D :: (K ++ (a ++ Z))) := fun p hp => N p (by
  simp only [List.mem_cons, List.mem_append] at hp ⊢
  rcases hp with hp | hp | hp | hp
  · exact .inl hp
  · exact .inr (.inr (.inl hp))
  · exact .inr (.inl hp)
  · exact .inr (.inr (.inr hp)))
theorem tail_many {K l l' : Led} (h : ∀ p ∈ l, p ∈ l') : ∀ p ∈ l, p ∈ K ++ l' := fun p hp => List.mem_append_right _ (h p hp)
theorem ledger_of {h₀ h : Heap} {L : Addr} {W : Led} (N : News h₀ L h W) : ∃ W', W' = W ∧ News h₀ L h W' := ⟨_, rfl, N⟩
theorem lit_of {h₀ h : Heap} {L y : Addr} {c : Int} {t : Tok} {rest : Led} (_N : News h₀ L h ((y, tupO [.int c t]) :: rest)) : ∃ L8 : Led, DatIn L8 (.ref y) (rowD [c]) ∧ ∀ p ∈ L8, p ∈ (y, tupO [.int c t]) :: rest :=
  ⟨[(y, tupO [.int c t])], .tuple (.head _) (row_all (.cons c t .nil)), fun _ hp => (List.mem_singleton.mp hp) ▸ .head _⟩
theorem tup_of {h₀ h : Heap} {L y : Addr} {q : Addr × Obj} {us : List Value} {n : Nat} {r : List Int} {rest : Led} (_N : News h₀ L h (q :: (y, ({ cls := .type "tuple", data := .seq us.toArray n } : Obj)) :: rest)) (hi : IntsAre us r) :
    ∃ L8 : Led, DatIn L8 (.ref y) (rowD r) ∧ ∀ p ∈ L8, p ∈ q :: (y, ({ cls := .type "tuple", data := .seq us.toArray n } : Obj)) :: rest :=
  ⟨[(y, { cls := .type "tuple", data := .seq us.toArray n })], .tuple (.head _) (row_all hi), fun _ hp => .tail _ ((List.mem_singleton.mp hp) ▸ .head _)⟩
theorem news_app {h₀ h : Heap} {L : Addr} {D : Addr × Obj} {a B : Led} (N : News h₀ L h (D :: (a ++ B))) : News h₀ L h (D :: (B ++ a)) := fun p hp => N p (by
  simp only [List.mem_cons, List.mem_append] at hp ⊢
  rcases hp with hp | hp | hp
  · exact .inl hp
  · exact .inr (.inr hp)
  · exact .inr (.inl hp))
end Mine
end

section
open PySem PySem.W PyProof.Rows
set_option maxRecDepth 100000
set_option maxHeartbeats 8000000
namespace Mine
local macro_rules | `(tactic| k_all) => `(tactic| assumption)
local macro_rules | `(tactic| walk_at "execs cons") => `(tactic| ((with_reducible refine wpAny_execs_cons ?_); (try dsimp only)))
local macro_rules | `(tactic| walk_at "execs nil") => `(tactic| ((with_reducible refine wpAny_execs_nil ?_); (try dsimp only)))
local macro_rules | `(tactic| walk_at "call ref") => `(tactic| first
  | (k_here; (with_reducible show wpAny _ _ (call (.ref 97) _) _ _ _); (refine Hold.h ?_))
  | (k_here; (with_reducible show wpAny _ _ (call (.ref 32) _) _ _ _); (refine Hold.h ?_)))
local macro_rules | `(tactic| walk_at "call ref") => `(tactic| (k_here; (with_reducible show wpAny _ _ (call (.ref 90) _) _ _ _); k_dflt (refine' count_use ?k1 ?k2 ?k3 ?k4 ?hx ?hL ?ht ?hu ?hk0 ?k5 ?k6 ?k7 ?k8 ?_; (case k1 => k_asm); (case k2 => k_asm); (case k3 => k_asm); (case k4 => k_asm); (case hx => with_reducible assumption); (case hL => exact tail_sub (tail_sub (tail_sub (tail_sub (by assumption))))); (case ht => with_reducible assumption); (case hu => omega); (case hk0 => decide); (case k5 => k_asm); (case k6 => exact rfl); (case k7 => decide); (case k8 => decide); k_whole); intro h' tk' tok' hle' F' N'; (try dsimp only at hle'); (try dsimp only); (try k_sweep)))
local macro_rules | `(tactic| walk_at "call ref") => `(tactic| (k_here; (with_reducible show wpAny _ _ (call (.ref 104) _) _ _ _); k_dflt (refine' many_use2 ?k1 ?k2 ?k3 ?k4 ?k5 ?kT ?kS ?kC ?k6 ?k7 ?k8 ?k9 ?kA ?kB ?_; (case k1 => k_asm); (case k2 => k_asm); (case k3 => k_asm); (case k4 => k_asm); (case k5 => k_asm); (case kT => with_reducible assumption); (case kS => with_reducible assumption); (case kC => assumption); (case k6 => exact rfl); (case k7 => decide); (case k8 => decide); (case k9 => omega); (case kA => omega); (case kB => with_reducible assumption); k_whole); intro h' tk' tok' ps' Z' hle' F' N' tn' sb' zc'; (try dsimp only at hle'); (try dsimp only); (try k_sweep)))
local macro_rules | `(tactic| walk_at "compareOp NotEq int int") => `(tactic| first | (k_here; (refine my_neInt ?e ?_); (case e => first | rfl | assumption | (rename (2 < _ → _) => hst'; exact hst' (by omega))); (try dsimp only)) | (refine Hold.h ?_))
local macro_rules | `(tactic| walk_at "call builtin:len") => `(tactic| first
  | (k_here; (with_reducible show wpAny _ _ (call (Value.builtin "len") [Value.ref _]) _ _ _); k_dflt (refine' my_len ?k1 ?k2 ?k3 ?k4 ?_; (case k1 => k_asm); (case k2 => first | assumption | k_mem); (case k3 => with_reducible assumption); (case k4 => omega); k_whole); (try dsimp only))
  | (k_here; (with_reducible show wpAny _ _ (call (Value.builtin "len") [Value.ref _]) _ _ _); k_dflt (refine' my_lenT ?k1 ?k2 ?k3 ?k4 ?_; (case k1 => k_asm); (case k2 => exact tail_sub (tail_sub (tail_sub (tail_sub (by assumption))))); (case k3 => with_reducible assumption); (case k4 => omega); k_whole); (try dsimp only))
  | (refine Hold.h ?_))
local macro_rules | `(tactic| walk_at "compareOp NotEq ref ref") => `(tactic| (refine Hold.h ?_))
local macro_rules | `(tactic| walk_at "pyIter ref") => `(tactic| (refine Hold.h ?_))
local macro_rules | `(tactic| walk_at "exec For Name Subscript cons nil") => `(tactic| (k_here; (rename Fr _ _ _ _ => lF'); (with_unfolding_all refine' For_invVF lF' ?k1 ?k2 ?_; (case k1 => exact rfl); (case k2 => exact rfl); k_whole)))
local macro_rules | `(tactic| walk_at "exec For Name Name cons nil") => `(tactic| (k_here; (with_unfolding_all refine' For_K ?_ ?kh; (case kh => intro _; rfl))))
local macro_rules | `(tactic| walk_at "binaryOp Mod int int") => `(tactic| (k_here; (refine my_mod13 (fun n' hn' => ?_)); (try dsimp only)))
local macro_rules | `(tactic| walk_at "FPost") => `(tactic| (dsimp only [FPost]))
local macro_rules | `(tactic| walk_at "GPost") => `(tactic| (dsimp only [GPost]))
local macro_rules | `(tactic| walk_at "call builtin:sorted") => `(tactic| (refine Hold.h ?_))
local macro_rules | `(tactic| walk_at "eval ListComp") => `(tactic| (k_here; k_dflt (refine LCt.ListComp_T (F₀ := by k_asm) (by with_unfolding_all rfl) (by decide) (by rfl) (by decide) (by rfl) ?_)))
local macro_rules | `(tactic| walk_at "CompSrcT") => `(tactic| (refine Hold.h ?_))
local macro_rules | `(tactic| walk_at "CompEnd") => `(tactic| (refine Hold.h ?_))
local macro_rules | `(tactic| walk_at "compareOp Eq ref ref") => `(tactic| (refine Hold.h ?_))
local macro_rules | `(tactic| walk_at "subscriptTail") => `(tactic| (k_here; (with_reducible show wpAny _ _ (subscriptTail _ _ (Value.ref _) (Value.int _ _)) _ _ _); (with_unfolding_all refine' my_sub ?k1 ?k2 ?k3 ?k4 ?k5 ?k6 ?_ ?k7; (case k1 => k_asm); (case k2 => k_mem); (case k3 => with_reducible assumption); (case k4 => omega); (case k5 => omega); (case k6 => omega); (case k7 => with_unfolding_all rfl); k_whole); intro a' x' hx' hD'; (try dsimp only)))
local macro_rules | `(tactic| walk_at "subscriptTail Name Slice ref ref") => `(tactic| (k_here; (with_reducible show wpAny _ _ (subscriptTail _ (PySem.Expr.Slice none (some _) none _) (Value.ref _) (Value.ref _)) _ _ _); (with_unfolding_all refine' my_head ?F ?N ?hs ?hd ?hr ?hz ?_ ?k1 ?k2; (case F => k_asm); (case N => k_asm); (case hd => with_reducible assumption); (case hs => exact tail_sub (tail_sub (tail_sub (by assumption)))); (case hr => assumption); (case hz => omega); (case k1 => with_unfolding_all rfl); (case k2 => (intro _; with_unfolding_all rfl)); k_whole); intro y' us' n' h' F' N' hi'; (try dsimp only)))
local macro_rules | `(tactic| walk_at "subscriptTail Name Slice ref ref") => `(tactic| (k_here; (with_reducible show wpAny _ _ (subscriptTail _ (PySem.Expr.Slice (some _) none none _) (Value.ref _) (Value.ref _)) _ _ _); (with_unfolding_all refine' my_tail ?F ?N ?hs ?hd ?hr ?hz ?_ ?k1 ?k2; (case F => k_asm); (case N => k_asm); (case hd => with_reducible assumption); (case hs => exact tail_sub (tail_sub (tail_sub (tail_sub (tail_sub (by assumption)))))); (case hr => assumption); (case hz => omega); (case k1 => with_unfolding_all rfl); (case k2 => (intro _; with_unfolding_all rfl)); k_whole); intro y' us' h' F' N' l1 hi'; (try dsimp only)))
structure IS where
  vs : List Value
  n : Nat
  l : List (List Int)
  tl : Tok
structure OS where
  o : Obj
  ps : Array Value
  add : Led
local macro_rules | `(tactic| walk_at "binaryOp Mod int int") => `(tactic| (k_here; (refine my_mod13 (fun n' hn' => ?_)); (try dsimp only)))
theorem law_holds : PySem.Challenge.rw_xn0008_01.Holds := by
  refine hd ?_
  k_go0
  all_goals try k_fold
  k_steps
  refine ⟨?_⟩
  k_dflt (refine' specT_use (law_rows_spec _ 0 _ [[]] _ (by decide +kernel)) ?k1 ?k2 ?k3 ?k4 ?k5 ?k6 ?k7 ?k8 ?_)
  case k1 => k_asm
  case k2 => k_asm
  case k3 => k_asm
  case k4 => k_asm
  case k5 => k_asm
  case k6 => exact rfl
  case k7 => decide
  case k8 => decide
  rename CodeHd _ _ _ => codeHd
  rename News _ _ _ _ => N0
  rename Obj => ow
  rename (99 < _) => l99
  clear N0
  rintro r h1 tk1 news1 hle1 F1 N1 ⟨D, vs1, n1, add1, rfl, rfl, hd1, hlt1, hlt2, htok1⟩
  dsimp only
  k_steps
  refine ⟨?_⟩
  rename News _ _ _ _ => N2
  k_dflt (refine' my_ne_eq (us := [Value.ref _]) (L9 := add1) (L8 := [(_, _)]) N2 (.tail _ (.tail _ (.head _))) (.head _) hd1 (.cons (.tuple (vs := []) (.head _) .nil) .nil) ?s1 ?s2 rfl ?s3 ?_)
  case s1 => exact fun p hp => .tail _ (.tail _ (.tail _ (List.mem_append_left _ hp)))
  case s2 => exact fun p hp => .tail _ ((List.mem_singleton.mp hp) ▸ .head _)
  case s3 => simp only [units_deeper]; decide
  k_steps
  refine ⟨?_⟩
  rename Below _ _ _ _ => B
  rename Top _ _ _ _ _ _ => T
  rename Frag.In _ _ => X
  rename Fr _ _ _ _ => F3
  rename News _ _ _ _ => N3
  rename IntsAre _ (List.take 3 _) => hi3
  rename (_ < _ ∧ _ < _ ∧ D < _ ∧ AllLt _ _) => hall
  have hdat : ∃ v, ow.data = .cell v := ⟨_, by assumption⟩

  rename_i S0 ws h3 _ _
  rename Shared => s1
  have hcell : s1.heap.objs.size + 1 < S0 := tb_ltOf hall.2.2.2 _ (List.mem_append_right _ (.head _))
  have h99 : 99 < S0 := tb_ltOf hall.2.2.2 _ (List.mem_append_right _ (.tail _ (.head _)))
  refine' my_for (σ := OS) (l := S0) (news := (S0, listOf ws.toArray 0) :: (s1.heap.objs.size + 1, ow) :: [(99, tabObj #[])]) (fun c => (s1.heap.objs.size + 1, c.o) :: (99, tabObj c.ps) :: (S0, listOf ws.toArray 0) :: c.add) (fun _ => [])
    (fun _ c => (∃ v, c.o.data = .cell v) ∧ TabIn [] c.ps c.add ∧ ∀ p ∈ c.add, p.1 ≠ s1.heap.objs.size + 1 ∧ p.1 ≠ 99) ⟨ow, #[], []⟩ rfl (.head _) F3 (fun p hp => N3 p ?hN) ?hn (fun _ => .tail _ (.tail _ (.head _))) (fun _ hp => absurd hp List.not_mem_nil) ⟨hdat, .inl rfl, fun _ hp => absurd hp List.not_mem_nil⟩ ?turn ?done
  case hN =>
    simp only [List.mem_cons, List.not_mem_nil, or_false, List.mem_append] at hp ⊢
    rcases hp with hp | hp | hp
    · exact .inl hp
    · exact .inr (.inr (.inr (.inr (.inr (.inl hp)))))
    · exact .inr (.inr (.inr (.inr (.inr (.inr hp)))))
  case hn =>
    intro p hp
    simp only [List.mem_cons, List.not_mem_nil, or_false] at hp ⊢
    rcases hp with hp | hp | hp
    · exact .inr (.inl hp)
    · exact .inr (.inr hp)
    · exact .inl hp
  case done =>
    rintro ⟨o2, ps2, add2⟩ u2 h2 tk2 ⟨hd2, ht2, ha2⟩ F4 N4
    clear F3 N3
    dsimp only at hd2 ht2 ha2 N4
    dsimp only [kstB] at F4
    k_steps
  case turn =>
    rintro i v ⟨o2, ps2, add2⟩ u2 h2 tk2 own hv hoff ⟨hd2, ht2, ha2⟩ F4 N4
    dsimp only at hd2 ht2 ha2 N4
    obtain ⟨k, t5, hk5, rfl⟩ := ints_at hi3 hv
    refine absQE (fun Qz Ez hEz => ?_) (by with_unfolding_all passes_own)
    clear F3 N3
    have tn := turn_in (ws := ws) (Nat.ne_of_gt (Nat.lt_succ_of_lt l99)) hcell h99 ht2 ha2 hoff
    obtain ⟨v2, hd2⟩ := hd2
    obtain ⟨Z, hZ⟩ : ∃ Z, Z = (S0, listOf ws.toArray 0) :: (add2 ++ own) := ⟨_, rfl⟩
    rw [← hZ] at tn
    simp only [List.cons_append] at N4
    rw [← hZ] at N4
    clear hZ hi3 hv hk5 ha2 ht2
    k_steps
    refine ⟨?_⟩
    rename (_ < 13) => hn
    obtain ⟨n, hn, hnE⟩ : ∃ n : Nat, n < 13 ∧ n = _ := ⟨_, hn, rfl⟩
    subst hnE
    have hsm := small' hn
    have hmn : ((rowsL n).length : Int) = many ((n : Int)).toNat := many' hn
    have hst : 2 < n → many ((n : Int)).toNat = many ((n : Int) - 2).toNat + many ((n : Int) - 3).toNat := by
      intro h2
      have e2 : ((n : Int) - 2).toNat = n - 2 := by omega
      have e3 : ((n : Int) - 3).toNat = n - 3 := by omega
      rw [e2, e3]
      exact step' hn h2
    rename News _ _ _ _ => N5
    k_dflt (refine' rows_use ?k1 ?k2 ?k3 N5 ?k5 tn ?k6 ?k7 ?k8 rfl hn ?_)
    case k1 => k_asm
    case k2 => k_asm
    case k3 => k_asm
    case k5 => k_asm
    case k6 => exact rfl
    case k7 => decide
    case k8 => decide
    clear N5 tn
    rintro h5 tk5 D5 vs5 c5 add5 hle5 F5 N5 tn hd5 htk5 lD5 lA5
    have sb : Sub ((D5, listOf vs5.toArray c5) :: add5) ((D5, listOf vs5.toArray c5) :: (add5 ++ Z)) := fun p hp => (List.mem_cons.mp hp).elim (fun e => e ▸ .head _) fun hp => .tail _ (List.mem_append_left _ hp)
    dsimp only
    k_steps
    · refine ⟨?_⟩
      rename Obj.data _ = Data.cell (some (Value.ref _)) => hcl
      rename Sub _ _ => sb6
      rename Turn _ _ _ _ _ _ => tn6
      rename News _ _ _ _ => N6
      rename Fr _ _ _ _ => F6
      rename (_ < _ ∧ _ < _ ∧ AllLt _ _) => l6
      rename_i h9 o9
      obtain ⟨lH, ps9, Z9, N9, tn9, sb9, hcl9, l9⟩ : ∃ lH ps9 Z9, News (ghostOf s1.heap [(103, 99)]) s1.heap.objs.size h9 ((lH, listOf (List.toArray []) 0) :: (s1.heap.objs.size + 1, o9) :: (99, tabObj ps9) :: Z9) ∧ Turn (s1.heap.objs.size + 1) S0 ws own ps9 Z9 ∧ Sub ((D5, listOf vs5.toArray c5) :: add5) Z9 ∧ o9.data = .cell (some (.ref lH)) ∧ (s1.heap.objs.size + 1 < lH ∧ 99 < lH ∧ AllLt lH Z9) := ⟨_, _, _, N6, tn6, sb6, hcl, l6⟩
      clear N6 tn6 sb6 hcl l6 tn sb
      have subA : ∀ p ∈ add5, p ∈ Z9 := fun p hp => sb9 p (.tail _ hp)
      have zlt := tb_ltOf l9.2.2
      have hcon : ∀ p ∈ (s1.heap.objs.size + 1, o9) :: (99, tabObj ps9) :: Z9, p.1 ≠ lH := List.forall_mem_cons.mpr ⟨Nat.ne_of_lt l9.1, List.forall_mem_cons.mpr ⟨Nat.ne_of_lt l9.2.1, fun p hp => Nat.ne_of_lt (zlt p hp)⟩⟩
      refine' my_forTT (σ := IS) (l := D5) (vs := vs5) (nn := c5) (fun c => (lH, listOf c.vs.toArray c.n) :: (s1.heap.objs.size + 1, o9) :: (99, tabObj ps9) :: Z9) (fun c => [(Str.ofString "length", .int (n : Int) c.tl), (Str.ofString "rows", .ref D5)])
        (fun i c => c.l = ((rowsL n).take i).foldl insort [] ∧ DatAll add5 c.vs (c.l.map rowD)) ⟨[], 0, [], _⟩ rfl rfl rfl hEz F6 N9 ?hl (fun _ h => h) ?hll ?hk ⟨rfl, .nil⟩ ?turn ?done
      case hl => exact .tail _ (.tail _ (.tail _ (sb9 _ (.head _))))
      case hll => exact fun _ => .tail _ (.tail _ (.tail _ (sb9 _ (.head _))))
      case hk => kst_all
      case turn =>
        rintro I oI i v ⟨vsi, ni, li, ti⟩ u9 hi tki hvi hlei hltI hnI ⟨hli, hdi⟩ Fi Ni
        clear F6 N9
        dsimp only at hli hdi Ni hnI hlei
        dsimp only [kstB] at Fi
        obtain ⟨ra, r, rfl, hri, hdr⟩ := row_get hd5 hvi
        have hr1 := (row' hn r (List.mem_of_getElem? hri)).1
        have hr2 := (row' hn r (List.mem_of_getElem? hri)).2
        have htk := take_snoc hri
        have hli12 : li.length ≤ 12 := by rw [hli]; exact fold_small hn
        k_steps
        refine ⟨?_⟩
        k_dflt (refine' insort_use ?k1 ?k2 ?k3 Ni (.tail (hnI _ (.head _)).symm (.head hcon)) hdi hdr (by omega) (tail_sub (tail_sub (tail_sub (tail_sub subA)))) (fun p hp => Nat.ne_of_lt (zlt p (subA p hp))) ?k4 ?k5 ?k6 ?k7 ?_)
        case k1 => k_asm
        case k2 => k_asm
        case k3 => k_asm
        case k4 => k_asm
        case k5 => exact rfl
        case k6 => decide
        case k7 => decide
        clear Ni Fi
        intro h10 tk10 vs10 hle10 F10 N10 hd10
        dsimp only at hle10 ⊢
        have htk10 : tk5 ≤ tk10 := by dsimp only at *; omega
        k_steps
        refine' g_end (σ := IS) ⟨vs10, ni + 1, insort li r, ti⟩ ?F ?N (.head _) (fun p hp => .tail _ hp) ?hw ?hk ⟨?hR, hd10⟩
        case F => assumption
        case N => assumption
        case hw => exact List.forall_mem_cons.mpr ⟨(show lH ≠ I from hnI _ (.head _)), fun p hp => hnI p (.tail _ hp)⟩
        case hk => kst_all
        case hR =>
          dsimp only
          rw [htk, List.foldl_append, ← hli]
          rfl
      case done =>
        rintro ⟨vs11, n11, l11, t11⟩ u11 h11 tk11 hle11 ⟨hl11, hd11⟩ F11 N11
        clear F6 N9
        have e11 : l11 = laidL n := by
          have hlen : vs5.length = (rowsL n).length := by simpa using hd5.length
          dsimp only at hl11
          rw [hl11, hlen, List.take_length]
          rfl
        clear hl11
        subst e11
        dsimp only at hd11 N11 hle11
        have hlen13 : (laidL n).length ≤ 12 := by
          have := fold_small (i := 100) hn
          rwa [List.take_of_length_le (by omega)] at this
        dsimp only [kstB] at F11
        k_steps
        refine ⟨?_⟩
        k_dflt (refine' my_sorted (L9 := add5) F11 N11 (.tail _ (.tail _ (.tail _ (sb9 _ (.head _))))) (tail_sub (tail_sub (tail_sub subA))) hd5 (srtOk' hn) ?_)
        clear F11 N11
        intro D12 vs12 c12 h12 F12 N12 lt12 hd12
        dsimp only
        k_steps
        refine ⟨?_⟩
        k_dflt (refine' my_ne_eq (L9 := add5) (L8 := add5) N12 (.tail _ (.head _)) (.head _) hd11 hd12 (tail_sub (tail_sub (tail_sub (tail_sub subA)))) (tail_sub (tail_sub (tail_sub (tail_sub subA)))) (srt' hn) ?hu ?_)
        case hu => simp only [units_deeper]; decide
        k_steps
        refine ⟨?_⟩
        rename IsRange _ _ _ _ _ _ _ _ => hR
        rename Fr _ _ _ _ => F13
        rename News _ _ _ _ => N13
        refine LCt.CompSrcT.range rfl F13 N13 hR (rsmall1 (by omega) (by omega)) (rangeSize_nat _ _) (by rw [PySem.sizeLine_eq]; omega) (fun g13 => ?_)
        clear F13 N13
        refine comp_turns _ (fun _ ys nw => ys = [] ∧ nw = (D12, listOf vs12.toArray c12) :: (lH, listOf vs11.toArray n11) :: (s1.heap.objs.size + 1, o9) :: (99, tabObj ps9) :: Z9) ?step ?fin _ 0 [] _ (Nat.zero_add _) ⟨rfl, rfl⟩
        case step =>
          rintro i ys nw hi ⟨rfl, rfl⟩ v I oI C oC D m2 h14 tk14 E14 ⟨t14, rfl⟩ hC hx F14 N14 off ne
          k_steps
          refine ⟨?_⟩
          rename_i a1 x1 hx1 hD1 a2 x2 hx2 hD2
          have hne : x1 ≠ x2 := by
            have h1 := uniq' hn (1 + i) (by omega) (by omega)
            have e1 : (1 + (i : Int)).toNat = 1 + i := by omega
            have e2 : (1 + (i : Int) - 1).toNat = 1 + i - 1 := by omega
            rw [e1] at hx1
            rw [e2] at hx2
            rw [getR hx1, getR hx2] at h1
            exact h1
          k_dflt (refine' my_eq_row N14 (tail_sub (tail_sub (tail_sub (tail_sub (tail_sub (tail_sub (tail_sub subA))))))) (tail_sub (tail_sub (tail_sub (tail_sub (tail_sub (tail_sub (tail_sub subA))))))) hD1 hD2 ?hu ?_)
          case hu => simp only [units_deeper]; decide
          rw [decide_eq_false hne]
          k_steps
          refine ⟨?_⟩
          exact LCg.CompEnd.intro F14 N14 _ (fun _ h => h) off trivial ⟨rfl, rfl⟩
        case fin =>
          rintro ys nw ⟨rfl, rfl⟩
          k_steps
          refine ⟨?_⟩
          rename News _ _ _ _ => N15
          k_dflt (refine' my_ne_eq (vs := []) (us := []) (l := []) (l2 := []) (L9 := []) (L8 := []) N15 (.tail _ (.head _)) (.head _) .nil .nil (fun _ h => absurd h List.not_mem_nil) (fun _ h => absurd h List.not_mem_nil) rfl ?hu ?_)
          case hu => simp only [units_deeper]; decide
          k_steps
          refine ⟨?_⟩
          have h2n : 2 < n := by omega
          rename News _ _ _ _ => N16
          rename Fr _ _ _ _ => F16
          have N17 := (show News _ _ _ ((lH, listOf vs11.toArray n11) :: (s1.heap.objs.size + 1, o9) :: (99, tabObj ps9) :: Z9) from fun p hp => N16 p (.tail _ (.tail _ (.tail _ hp))))
          clear N16
          k_dflt (refine' specT_use (law_rows_spec _ ((n : Int) - 2) _ (rowsL (n - 2)) _ (rows_sub (k := 2) hn (by omega))) ?k1 ?k2 ?k3 N17 ?k5 ?k6 ?k7 ?k8 ?_)
          case k1 => k_asm
          case k2 => k_asm
          case k3 => k_asm
          case k5 => k_asm
          case k6 => exact rfl
          case k7 => decide
          case k8 => decide
          clear F16
          rintro r18 h18 tk18 news18 hle18 F18 N18 ⟨Da, vsa, ca, adda, rfl, rfl, hda, lta, ltaa, htka⟩
          have N19 := news_shuf [(lH, listOf vs11.toArray n11), (s1.heap.objs.size + 1, o9), (99, tabObj ps9)] N18
          simp only [List.cons_append, List.nil_append] at N19
          clear N18
          dsimp only
          k_steps
          refine ⟨?_⟩
          k_dflt (refine' my_sorted (L9 := adda) F18 N19 (.head _) (tail_sub (tail_sub (tail_sub (tail_sub fun p hp => List.mem_append_left _ hp)))) hda (srtOk' (n := n - 2) (by omega)) ?_)
          clear F18 N19
          intro D20 vs20 c20 h20 F20 N20 lt20 hd20
          dsimp only
          k_steps
          refine ⟨?_⟩
          k_dflt (refine' specT_use (law_rows_spec _ ((n : Int) - 3) _ (rowsL (n - 3)) _ (rows_sub (k := 3) hn (by omega))) ?k1 ?k2 ?k3 N20 ?k5 ?k6 ?k7 ?k8 ?_)
          case k1 => k_asm
          case k2 => k_asm
          case k3 => k_asm
          case k5 => k_asm
          case k6 => exact rfl
          case k7 => decide
          case k8 => decide
          clear F20 N20
          rintro r21 h21 tk21 news21 hle21 F21 N21 ⟨Db, vsb, cb, addb, rfl, rfl, hdb, ltb, ltbb, htkb⟩
          have N22 := news_shuf [(D20, listOf vs20.toArray c20), (Da, listOf vsa.toArray ca), (lH, listOf vs11.toArray n11), (s1.heap.objs.size + 1, o9), (99, tabObj ps9)] N21
          simp only [List.cons_append, List.nil_append] at N22
          clear N21
          dsimp only
          k_steps
          refine ⟨?_⟩
          k_dflt (refine' my_sorted (L9 := addb) F21 N22 (.head _) (tail_sub (tail_sub (tail_sub (tail_sub (tail_sub (tail_sub fun p hp => List.mem_append_left _ hp)))))) hdb (srtOk' (n := n - 3) (by omega)) ?_)
          clear F21 N22
          intro D23 vs23 c23 h23 F23 N23 lt23 hd23
          dsimp only
          k_steps
          refine ⟨?_⟩
          rename Fr _ _ _ _ => F25
          rename News _ _ _ _ => N25
          have hl11 : vs11.length = (laidL n).length := by simpa using hd11.length
          refine LCt.CompSrcT.ledger rfl F25 N25 (k := n11) (its := vs11.toArray) (by k_mem) (by rw [List.size_toArray, PySem.sizeLine_eq]; omega) (fun g25 => ?_)
          have hsz25 : vs11.toArray.size = (laidL n).length := by rw [List.size_toArray]; simpa using hd11.length
          obtain ⟨B1, hB1, N25b⟩ := ledger_of N25
          have mH25 : (lH, listOf vs11.toArray n11) ∈ B1 := by rw [hB1]; k_mem
          have subB25 : ∀ p ∈ add5, p ∈ B1 := by rw [hB1]; intro p hp; have hp2 := subA p hp; simp only [List.append_eq, List.mem_cons, List.mem_append, hp2, true_or, or_true]
          rw [← hB1]
          refine comp_turns _ (fun i ys nw => ∃ addc, nw = addc ++ B1 ∧ DatAll (addc ++ add5) ys ((headed 2 ((laidL n).take i)).map rowD)) ?step ?fin _ 0 [] _ (Nat.zero_add _) ⟨[], rfl, .nil⟩
          case step =>
            clear N25 N25b F25
            rintro i ys nw hi ⟨addc, rfl, hys⟩ v I oI Cc oC D m2 h30 tk30 E30 hv hC hx F30 N30 off ne
            obtain ⟨ra, r, rfl, hri, hdr⟩ := row_get hd11 (show vs11[i]? = some v by simpa using hv)
            obtain ⟨hrne, hr12⟩ := laid' hn h2n r (List.mem_of_getElem? hri)
            have subT : ∀ p ∈ add5, p ∈ addc ++ B1 := fun p hp => List.mem_append_right _ (subB25 p hp)
            have htk := take_snoc hri
            k_steps
            refine ⟨?_⟩
            rename IntsAre _ (List.take 1 r) => hi31
            rename News _ _ _ _ => N31
            rename Fr _ _ _ _ => F31
            obtain ⟨K8, hK8, sK8⟩ := lit_of N31
            obtain ⟨K9, hK9, sK9⟩ := tup_of N31 hi31
            k_dflt (refine' my_eq_row N31 sK9 sK8 hK9 hK8 ?hu ?_)
            case hu => simp only [units_deeper]; decide
            by_cases ht : r.take 1 = [2]
            · rw [decide_eq_true ht]
              k_steps
              refine ⟨?_⟩
              rename_i y32 us32 h32 F32 N32 l32 hi32
              refine LCg.CompEnd.intro F32 N32 ((y32, tupO us32) :: (addc ++ B1)) ?sub ⟨⟨Nat.ne_of_gt (l32 (I, oI) ?m1), Nat.ne_of_gt (l32 (Cc, oC) ?m2), Nat.ne_of_gt (l32 (D, LCg.lst ys) ?m3)⟩, off⟩ (.inr ⟨_, .tail _ (List.mem_append_right _ mH25), rfl, _, rfl⟩) ⟨(y32, tupO us32) :: addc, rfl, ?_⟩
              case sub =>
                intro p hp
                simp only [List.mem_cons] at hp ⊢
                rcases hp with hp | hp | hp | hp | hp
                · exact .inr (.inr (.inr (.inl hp)))
                · exact .inr (.inr (.inr (.inr (.inl hp))))
                · exact .inr (.inr (.inr (.inr (.inr (.inl hp)))))
                · exact .inl hp
                · exact .inr (.inr (.inr (.inr (.inr (.inr hp)))))
              case m1 => exact .tail _ (.tail _ (.head _))
              case m2 => exact .tail _ (.tail _ (.tail _ (.head _)))
              case m3 => exact .tail _ (.tail _ (.tail _ (.tail _ (.head _))))
              rw [htk, headed_pos ht, List.map_append]
              exact (hys.mono fun p hp => .tail _ hp).append (.one (.tuple (.head _) (row_all hi32)))
            · rw [decide_eq_false ht]
              k_steps
              refine ⟨?_⟩
              refine LCg.CompEnd.intro F31 N31 (addc ++ B1) (fun p hp => .tail _ (.tail _ hp)) off (.inr ⟨_, List.mem_append_right _ mH25, rfl, _, rfl⟩) ⟨addc, rfl, ?_⟩
              rw [htk, headed_neg ht]
              exact hys
          case fin =>
            clear N25 N25b F25
            rintro ys nw ⟨addc, rfl, hys⟩
            unfold LCg.FinE
            intro Dz h33 tk33 F33 N33 off33
            rw [hsz25, List.take_length] at hys
            have mD25 : (D20, listOf vs20.toArray c20) ∈ B1 := by rw [hB1]; k_mem
            have sA25 : ∀ p ∈ adda, p ∈ B1 := by rw [hB1]; intro p hp; simp only [List.append_eq, List.mem_cons, List.mem_append, hp, true_or, or_true]
            have N34 := N33
            rw [hB1] at N34
            replace N34 := news_app N34
            simp only [List.cons_append, List.append_assoc] at N34
            k_steps
            refine ⟨?_⟩
            k_dflt (refine' my_ne_eq N33 (.head _) (.tail _ (List.mem_append_right _ mD25)) hys hd20 ?s1 ?s2 (sh2' hn h2n) ?hu ?_)
            case s1 => exact fun p hp => .tail _ ((List.mem_append.mp hp).elim (List.mem_append_left _) fun h => List.mem_append_right _ (subB25 p h))
            case s2 => exact fun p hp => .tail _ (List.mem_append_right _ (sA25 p hp))
            case hu => simp only [units_deeper]; decide
            clear N33
            k_steps
            refine ⟨?_⟩
            refine LCt.CompSrcT.ledger rfl F33 N34 (k := n11) (its := vs11.toArray) (by k_mem) (by rw [List.size_toArray, PySem.sizeLine_eq]; omega) (fun g45 => ?_)
            have hsz45 : vs11.toArray.size = (laidL n).length := by rw [List.size_toArray]; simpa using hd11.length
            obtain ⟨B2, hB2, N34b⟩ := ledger_of N34
            have mH45 : (lH, listOf vs11.toArray n11) ∈ B2 := by rw [hB2]; k_mem
            have subB45 : ∀ p ∈ add5, p ∈ B2 := by rw [hB2]; intro p hp; have hp2 := subA p hp; simp only [List.append_eq, List.mem_cons, List.mem_append, hp2, true_or, or_true]
            rw [← hB2]
            refine comp_turns _ (fun i ys nw => ∃ addc, nw = addc ++ B2 ∧ DatAll (addc ++ add5) ys ((headed 3 ((laidL n).take i)).map rowD)) ?step ?fin _ 0 [] _ (Nat.zero_add _) ⟨[], rfl, .nil⟩
            case step =>
              clear N34 N34b F33
              rintro i ys nw hi ⟨addc, rfl, hys⟩ v I oI Cc oC D m2 h30 tk30 E30 hv hC hx F30 N30 off ne
              obtain ⟨ra, r, rfl, hri, hdr⟩ := row_get hd11 (show vs11[i]? = some v by simpa using hv)
              obtain ⟨hrne, hr12⟩ := laid' hn h2n r (List.mem_of_getElem? hri)
              have subT : ∀ p ∈ add5, p ∈ addc ++ B2 := fun p hp => List.mem_append_right _ (subB45 p hp)
              have htk := take_snoc hri
              k_steps
              refine ⟨?_⟩
              rename IntsAre _ (List.take 1 r) => hi31
              rename News _ _ _ _ => N31
              rename Fr _ _ _ _ => F31
              obtain ⟨K8, hK8, sK8⟩ := lit_of N31
              obtain ⟨K9, hK9, sK9⟩ := tup_of N31 hi31
              k_dflt (refine' my_eq_row N31 sK9 sK8 hK9 hK8 ?hu ?_)
              case hu => simp only [units_deeper]; decide
              by_cases ht : r.take 1 = [3]
              · rw [decide_eq_true ht]
                k_steps
                refine ⟨?_⟩
                rename_i y32 us32 h32 F32 N32 l32 hi32
                refine LCg.CompEnd.intro F32 N32 ((y32, tupO us32) :: (addc ++ B2)) ?sub ⟨⟨Nat.ne_of_gt (l32 (I, oI) ?m1), Nat.ne_of_gt (l32 (Cc, oC) ?m2), Nat.ne_of_gt (l32 (D, LCg.lst ys) ?m3)⟩, off⟩ (.inr ⟨_, .tail _ (List.mem_append_right _ mH45), rfl, _, rfl⟩) ⟨(y32, tupO us32) :: addc, rfl, ?_⟩
                case sub =>
                  intro p hp
                  simp only [List.mem_cons] at hp ⊢
                  rcases hp with hp | hp | hp | hp | hp
                  · exact .inr (.inr (.inr (.inl hp)))
                  · exact .inr (.inr (.inr (.inr (.inl hp))))
                  · exact .inr (.inr (.inr (.inr (.inr (.inl hp)))))
                  · exact .inl hp
                  · exact .inr (.inr (.inr (.inr (.inr (.inr hp)))))
                case m1 => exact .tail _ (.tail _ (.head _))
                case m2 => exact .tail _ (.tail _ (.tail _ (.head _)))
                case m3 => exact .tail _ (.tail _ (.tail _ (.tail _ (.head _))))
                rw [htk, headed_pos ht, List.map_append]
                exact (hys.mono fun p hp => .tail _ hp).append (.one (.tuple (.head _) (row_all hi32)))
              · rw [decide_eq_false ht]
                k_steps
                refine ⟨?_⟩
                refine LCg.CompEnd.intro F31 N31 (addc ++ B2) (fun p hp => .tail _ (.tail _ hp)) off (.inr ⟨_, List.mem_append_right _ mH45, rfl, _, rfl⟩) ⟨addc, rfl, ?_⟩
                rw [htk, headed_neg ht]
                exact hys
            case fin =>
              clear N34 N34b F33
              rintro ys nw ⟨addc, rfl, hys⟩
              unfold LCg.FinE
              intro Dy h53 tk53 F53 N53 off53
              rw [hsz45, List.take_length] at hys
              have mD45 : (D23, listOf vs23.toArray c23) ∈ B2 := by rw [hB2]; k_mem
              have sA45 : ∀ p ∈ addb, p ∈ B2 := by rw [hB2]; intro p hp; simp only [List.append_eq, List.mem_cons, List.mem_append, hp, true_or, or_true]
              have sZ45 : ∀ p ∈ Z9, p ∈ B2 := by rw [hB2]; intro p hp; simp only [List.append_eq, List.mem_cons, List.mem_append, hp, true_or, or_true]
              have mC45 : (s1.heap.objs.size + 1, o9) ∈ B2 := by rw [hB2]; k_mem
              have m945 : (99, tabObj ps9) ∈ B2 := by rw [hB2]; k_mem
              have N54 := N53
              rw [hB2] at N54
              replace N54 := news_app N54
              simp only [List.cons_append, List.append_assoc] at N54
              k_steps
              refine ⟨?_⟩
              k_dflt (refine' my_ne_eq N53 (.head _) (.tail _ (List.mem_append_right _ mD45)) hys hd23 ?s1 ?s2 (sh3' hn h2n) ?hu ?_)
              case s1 => exact fun p hp => .tail _ ((List.mem_append.mp hp).elim (List.mem_append_left _) fun h => List.mem_append_right _ (subB45 p h))
              case s2 => exact fun p hp => .tail _ (List.mem_append_right _ (sA45 p hp))
              case hu => simp only [units_deeper]; decide
              k_steps
              obtain ⟨addF, tF, sF, nF, oF⟩ := turn_out (o := o9) tn9 hoff
              refine' f_end (σ := OS) ⟨o9, ps9, addF⟩ ?F N53 ?hn ?ho oF ?hk ⟨⟨_, hcl9⟩, tF, nF⟩
              case F => assumption
              case hk => exact fun _ h => absurd h List.not_mem_nil
              case hn => exact List.forall_mem_cons.mpr ⟨.tail _ (List.mem_append_right _ mC45), List.forall_mem_cons.mpr ⟨.tail _ (List.mem_append_right _ m945), List.forall_mem_cons.mpr ⟨.tail _ (List.mem_append_right _ (sZ45 _ tn9.hS)), fun p hp => .tail _ (List.mem_append_right _ (sZ45 _ (sF p hp)))⟩⟩⟩
              case ho => exact fun p hp => .tail _ (List.mem_append_right _ (sZ45 _ (tn9.ho p hp)))
    · refine ⟨?_⟩
      rename Obj.data _ = Data.cell (some (Value.ref _)) => hcl
      rename Sub _ _ => sb6
      rename Turn _ _ _ _ _ _ => tn6
      rename News _ _ _ _ => N6
      rename Fr _ _ _ _ => F6
      rename (_ < _ ∧ _ < _ ∧ AllLt _ _) => l6
      rename_i h9 o9
      obtain ⟨lH, ps9, Z9, N9, tn9, sb9, hcl9, l9⟩ : ∃ lH ps9 Z9, News (ghostOf s1.heap [(103, 99)]) s1.heap.objs.size h9 ((lH, listOf (List.toArray []) 0) :: (s1.heap.objs.size + 1, o9) :: (99, tabObj ps9) :: Z9) ∧ Turn (s1.heap.objs.size + 1) S0 ws own ps9 Z9 ∧ Sub ((D5, listOf vs5.toArray c5) :: add5) Z9 ∧ o9.data = .cell (some (.ref lH)) ∧ (s1.heap.objs.size + 1 < lH ∧ 99 < lH ∧ AllLt lH Z9) := ⟨_, _, _, N6, tn6, sb6, hcl, l6⟩
      clear N6 tn6 sb6 hcl l6 tn sb
      have subA : ∀ p ∈ add5, p ∈ Z9 := fun p hp => sb9 p (.tail _ hp)
      have zlt := tb_ltOf l9.2.2
      have hcon : ∀ p ∈ (s1.heap.objs.size + 1, o9) :: (99, tabObj ps9) :: Z9, p.1 ≠ lH := List.forall_mem_cons.mpr ⟨Nat.ne_of_lt l9.1, List.forall_mem_cons.mpr ⟨Nat.ne_of_lt l9.2.1, fun p hp => Nat.ne_of_lt (zlt p hp)⟩⟩
      refine' my_forTT (σ := IS) (l := D5) (vs := vs5) (nn := c5) (fun c => (lH, listOf c.vs.toArray c.n) :: (s1.heap.objs.size + 1, o9) :: (99, tabObj ps9) :: Z9) (fun c => [(Str.ofString "length", .int (n : Int) c.tl), (Str.ofString "rows", .ref D5)])
        (fun i c => c.l = ((rowsL n).take i).foldl insort [] ∧ DatAll add5 c.vs (c.l.map rowD)) ⟨[], 0, [], _⟩ rfl rfl rfl hEz F6 N9 ?hl (fun _ h => h) ?hll ?hk ⟨rfl, .nil⟩ ?turn ?done
      case hl => exact .tail _ (.tail _ (.tail _ (sb9 _ (.head _))))
      case hll => exact fun _ => .tail _ (.tail _ (.tail _ (sb9 _ (.head _))))
      case hk => kst_all
      case turn =>
        rintro I oI i v ⟨vsi, ni, li, ti⟩ u9 hi tki hvi hlei hltI hnI ⟨hli, hdi⟩ Fi Ni
        clear F6 N9
        dsimp only at hli hdi Ni hnI hlei
        dsimp only [kstB] at Fi
        obtain ⟨ra, r, rfl, hri, hdr⟩ := row_get hd5 hvi
        have hr1 := (row' hn r (List.mem_of_getElem? hri)).1
        have hr2 := (row' hn r (List.mem_of_getElem? hri)).2
        have htk := take_snoc hri
        have hli12 : li.length ≤ 12 := by rw [hli]; exact fold_small hn
        k_steps
        refine ⟨?_⟩
        k_dflt (refine' insort_use ?k1 ?k2 ?k3 Ni (.tail (hnI _ (.head _)).symm (.head hcon)) hdi hdr (by omega) (tail_sub (tail_sub (tail_sub (tail_sub subA)))) (fun p hp => Nat.ne_of_lt (zlt p (subA p hp))) ?k4 ?k5 ?k6 ?k7 ?_)
        case k1 => k_asm
        case k2 => k_asm
        case k3 => k_asm
        case k4 => k_asm
        case k5 => exact rfl
        case k6 => decide
        case k7 => decide
        clear Ni Fi
        intro h10 tk10 vs10 hle10 F10 N10 hd10
        dsimp only at hle10 ⊢
        have htk10 : tk5 ≤ tk10 := by dsimp only at *; omega
        k_steps
        refine' g_end (σ := IS) ⟨vs10, ni + 1, insort li r, ti⟩ ?F ?N (.head _) (fun p hp => .tail _ hp) ?hw ?hk ⟨?hR, hd10⟩
        case F => assumption
        case N => assumption
        case hw => exact List.forall_mem_cons.mpr ⟨(show lH ≠ I from hnI _ (.head _)), fun p hp => hnI p (.tail _ hp)⟩
        case hk => kst_all
        case hR =>
          dsimp only
          rw [htk, List.foldl_append, ← hli]
          rfl
      case done =>
        rintro ⟨vs11, n11, l11, t11⟩ u11 h11 tk11 hle11 ⟨hl11, hd11⟩ F11 N11
        clear F6 N9
        have e11 : l11 = laidL n := by
          have hlen : vs5.length = (rowsL n).length := by simpa using hd5.length
          dsimp only at hl11
          rw [hl11, hlen, List.take_length]
          rfl
        clear hl11
        subst e11
        dsimp only at hd11 N11 hle11
        have hlen13 : (laidL n).length ≤ 12 := by
          have := fold_small (i := 100) hn
          rwa [List.take_of_length_le (by omega)] at this
        dsimp only [kstB] at F11
        k_steps
        refine ⟨?_⟩
        k_dflt (refine' my_sorted (L9 := add5) F11 N11 (.tail _ (.tail _ (.tail _ (sb9 _ (.head _))))) (tail_sub (tail_sub (tail_sub subA))) hd5 (srtOk' hn) ?_)
        clear F11 N11
        intro D12 vs12 c12 h12 F12 N12 lt12 hd12
        dsimp only
        k_steps
        refine ⟨?_⟩
        k_dflt (refine' my_ne_eq (L9 := add5) (L8 := add5) N12 (.tail _ (.head _)) (.head _) hd11 hd12 (tail_sub (tail_sub (tail_sub (tail_sub subA)))) (tail_sub (tail_sub (tail_sub (tail_sub subA)))) (srt' hn) ?hu ?_)
        case hu => simp only [units_deeper]; decide
        k_steps
        refine ⟨?_⟩
        rename IsRange _ _ _ _ _ _ _ _ => hR
        rename Fr _ _ _ _ => F13
        rename News _ _ _ _ => N13
        refine LCt.CompSrcT.range rfl F13 N13 hR (rsmall1 (by omega) (by omega)) (rangeSize_nat _ _) (by rw [PySem.sizeLine_eq]; omega) (fun g13 => ?_)
        clear F13 N13
        refine comp_turns _ (fun _ ys nw => ys = [] ∧ nw = (D12, listOf vs12.toArray c12) :: (lH, listOf vs11.toArray n11) :: (s1.heap.objs.size + 1, o9) :: (99, tabObj ps9) :: Z9) ?step ?fin _ 0 [] _ (Nat.zero_add _) ⟨rfl, rfl⟩
        case step =>
          rintro i ys nw hi ⟨rfl, rfl⟩ v I oI C oC D m2 h14 tk14 E14 ⟨t14, rfl⟩ hC hx F14 N14 off ne
          k_steps
          refine ⟨?_⟩
          rename_i a1 x1 hx1 hD1 a2 x2 hx2 hD2
          have hne : x1 ≠ x2 := by
            have h1 := uniq' hn (1 + i) (by omega) (by omega)
            have e1 : (1 + (i : Int)).toNat = 1 + i := by omega
            have e2 : (1 + (i : Int) - 1).toNat = 1 + i - 1 := by omega
            rw [e1] at hx1
            rw [e2] at hx2
            rw [getR hx1, getR hx2] at h1
            exact h1
          k_dflt (refine' my_eq_row N14 (tail_sub (tail_sub (tail_sub (tail_sub (tail_sub (tail_sub (tail_sub subA))))))) (tail_sub (tail_sub (tail_sub (tail_sub (tail_sub (tail_sub (tail_sub subA))))))) hD1 hD2 ?hu ?_)
          case hu => simp only [units_deeper]; decide
          rw [decide_eq_false hne]
          k_steps
          refine ⟨?_⟩
          exact LCg.CompEnd.intro F14 N14 _ (fun _ h => h) off trivial ⟨rfl, rfl⟩
        case fin =>
          rintro ys nw ⟨rfl, rfl⟩
          k_steps
          refine ⟨?_⟩
          rename News _ _ _ _ => N15
          k_dflt (refine' my_ne_eq (vs := []) (us := []) (l := []) (l2 := []) (L9 := []) (L8 := []) N15 (.tail _ (.head _)) (.head _) .nil .nil (fun _ h => absurd h List.not_mem_nil) (fun _ h => absurd h List.not_mem_nil) rfl ?hu ?_)
          case hu => simp only [units_deeper]; decide
          k_steps
          obtain ⟨addF, tF, sF, nF, oF⟩ := turn_out (o := o9) tn9 hoff
          refine' f_end (σ := OS) ⟨o9, ps9, addF⟩ ?F ?N ?hn ?ho oF ?hk ⟨⟨_, hcl9⟩, tF, nF⟩
          case F => assumption
          case N => assumption
          case hk => exact fun _ h => absurd h List.not_mem_nil
          case hn => exact List.forall_mem_cons.mpr ⟨by k_mem, List.forall_mem_cons.mpr ⟨by k_mem, List.forall_mem_cons.mpr ⟨.tail _ (.tail _ (.tail _ (.tail _ (.tail _ (.tail _ tn9.hS))))), fun p hp => .tail _ (.tail _ (.tail _ (.tail _ (.tail _ (.tail _ (sF p hp))))))⟩⟩⟩
          case ho => exact fun p hp => .tail _ (.tail _ (.tail _ (.tail _ (.tail _ (.tail _ (tn9.ho p hp))))))
end Mine
end

theorem PySem.Challenge.cw_xn0008_01_holds : PySem.Challenge.rw_xn0008_01.Holds := by
  exact Mine.law_holds
