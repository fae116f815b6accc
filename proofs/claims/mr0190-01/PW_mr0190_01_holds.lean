import PyProof.Rows.All
import Wide.All
import OpenK.AllK
import Wide.FinOn
import PyProof.Rows.WhileGen
import Lean
import PySem.Challenge.RW_mr0190_01
open PySem PySem.W PyProof.Rows
set_option Elab.async false
set_option maxRecDepth 100000
set_option maxHeartbeats 8000000

namespace Mine
open_top hd for PySem.Challenge.rw_mr0190_01

end Mine

namespace Mine

/-- a pair on the heap: its address, its two numbers -/
structure Cell where
  ad : Addr
  num : Int
  plc : Int

abbrev ref (c : Cell) : Value := .ref c.ad
def refs (cs : List Cell) : List Value := cs.map ref

/-- the ledger bears the pair -/
def Bears (rest : List (Addr × Obj)) (c : Cell) : Prop := ∃ t u n, (c.ad, listOf #[.int c.num t, .int c.plc u] n) ∈ rest

/-- the contract's frame: what every def is asked at -/
def Con (prog : Program) (w : World) (mean : ExcName → Option Value) (mg mb : Str → Option Value) (f : Addr) (size : Nat)
    (Pre : List (Addr × Obj) → List Value → Prop) (Post : List (Addr × Obj) → List Value → Value → List (Addr × Obj) → Prop) : Prop :=
  ∀ (dp un : Nat) (gd : Option (List Code)) (cn : Str) (cs : Scope) (a : Addr) (ccd : Value) (cl : List (Str × Addr)) (outer : List Env) (A₀ : Around) (base h₀ : Heap) (L : Addr) (m : Str → Option Value) (news : List (Addr × Obj)) (s : Shared) (vs : List Value)
    (Q E : Value → Shared → Prop),
    Below A₀ base outer h₀ → Fr h₀ L s.heap m → (hd.heap_39 w.params).In h₀ → News h₀ L s.heap news → Top hd.view_39 (looseW hd.view_39 []) mean mg mb h₀ → cs.kind = .function → Pre news vs → dp + size < 900 → un + 8 * size < 2000 →
    (∀ r news' h' tk', Fr h₀ L h' m → News h₀ L h' news' → Post news vs r news' → Q r { s with heap := h', toks := tk' }) →
    wpAny (model prog w) (ktrTop dp un gd cn cs L a ccd cl outer) (call (.ref f) vs) Q E s

theorem con_use {prog : Program} {w : World} {mean : ExcName → Option Value} {mg mb : Str → Option Value} {f : Addr} {size : Nat} {Pre : List (Addr × Obj) → List Value → Prop} {Post : List (Addr × Obj) → List Value → Value → List (Addr × Obj) → Prop}
    (C : Con prog w mean mg mb f size Pre Post)
    {dp un : Nat} {gd : Option (List Code)} {cn : Str} {cs : Scope} {a : Addr} {ccd : Value} {cl : List (Str × Addr)} {outer : List Env} {A₀ : Around} {base h₀ : Heap} {L : Addr} {m : Str → Option Value} {news : List (Addr × Obj)} {s : Shared} {vs : List Value} {Q E : Value → Shared → Prop}
    (B : Below A₀ base outer h₀) (F : Fr h₀ L s.heap m) (X : (hd.heap_39 w.params).In h₀) (N : News h₀ L s.heap news) (T : Top hd.view_39 (looseW hd.view_39 []) mean mg mb h₀) (hk : cs.kind = .function) (hP : Pre news vs) (hd : dp + size < 900) (hu : un + 8 * size < 2000)
    (ret : ∀ r news' h' tk', Fr h₀ L h' m → News h₀ L h' news' → Post news vs r news' → Q r { s with heap := h', toks := tk' }) :
    wpAny (model prog w) (ktrTop dp un gd cn cs L a ccd cl outer) (call (.ref f) vs) Q E s := C _ _ _ _ _ _ _ _ _ _ _ _ _ _ _ _ _ _ _ B F X N T hk hP hd hu ret

theorem fill : (fun (_ : OpenLaw) (_ : Params → Frag) => True) PySem.Challenge.rw_mr0190_01 hd.heap_39 := by k_fill; trivial
end Mine

namespace Mine
open PySem.SeqAt
open PySem.AutoSeq1 (wpAny_loadPart')
open PySem.MeetsSeq PySem.MeetsSeq2 PySem.MeetsSeq3 PySem.SeqRoads2

def ltP (x y x' y' : Int) : Bool := if x = x' then decide (y < y') else decide (x < x')

section
variable {l b : Addr} {items items2 : Array Value} {n n2 : Nat}
theorem lt_end (i : Nat) (hi1 : items[i]? = none) (hi2 : items2[i]? = none) (hsz : items.size = items2.size) :
    Meets (Builtin.«list.__eq__.loop» ⟨[.ref l, .ref b, rawInt i, rawInt 0], []⟩)
      (fun _ R s => s.heap.get? l = some (listOf items n) ∧ s.heap.get? b = some (listOf items2 n2) ∧ R (.ok (.ret (.bool false))) s) := by
  intro prog w A R s h
  obtain ⟨hp, g, d, tk, os⟩ := s; obtain ⟨hl, hb, h⟩ := h
  wp_walk using wpAny_loadPart' hl, wpAny_loadPart' hb
  rw [show ((i : Nat) : Int).toNat = i from rfl, hi1, hi2]
  wp_walk using wpAny_loadPart' hl, wpAny_loadPart' hb
  show R (.ok (.ret (.bool (decide (items.size < items2.size))))) _
  rw [hsz]
  simpa using h

theorem lt_eq {y : Int} {u u' : Tok} (i : Nat) (hi1 : items[i]? = some (.int y u)) (hi2 : items2[i]? = some (.int y u')) {v : Value}
    (next : Meets (Builtin.«list.__eq__.loop» ⟨[.ref l, .ref b, rawInt (i + 1 : Nat), rawInt 0], []⟩)
      (fun _ R s => s.heap.get? l = some (listOf items n) ∧ s.heap.get? b = some (listOf items2 n2) ∧ R (.ok (.ret v)) s)) :
    Meets (Builtin.«list.__eq__.loop» ⟨[.ref l, .ref b, rawInt i, rawInt 0], []⟩)
      (fun _ R s => s.heap.get? l = some (listOf items n) ∧ s.heap.get? b = some (listOf items2 n2) ∧ R (.ok (.ret v)) s) := by
  intro prog w A R s h
  obtain ⟨hp, g, d, tk, os⟩ := s; obtain ⟨hl, hb, h⟩ := h
  wp_walk using wpAny_loadPart' hl, wpAny_loadPart' hb
  rw [show ((i : Nat) : Int).toNat = i from rfl, hi1, hi2]
  refine wpAny_bind (EqAt.int_int y u y u' prog w _ _ ?_)
  have hc : ((i : Int) + 1) = ((i + 1 : Nat) : Int) := by push_cast; rfl
  rw [show (y == y) = true from by simp]
  wp_walk
  rw [hc]
  exact ⟨plainId_quiet plain_eq_loop _, codeAny_builtin entry_eq_loop (by
        rw [Around.under_plainId plain_eq_loop _]
        exact next prog w A R _ ⟨hl, hb, h⟩)⟩

theorem lt_ne {y y' : Int} {u u' : Tok} (i : Nat) (hi1 : items[i]? = some (.int y u)) (hi2 : items2[i]? = some (.int y' u')) (hne : y ≠ y') :
    Meets (Builtin.«list.__eq__.loop» ⟨[.ref l, .ref b, rawInt i, rawInt 0], []⟩)
      (fun _ R s => s.heap.get? l = some (listOf items n) ∧ s.heap.get? b = some (listOf items2 n2) ∧ R (.ok (.ret (.bool (decide (y < y'))))) s) := by
  intro prog w A R s h
  obtain ⟨hp, g, d, tk, os⟩ := s; obtain ⟨hl, hb, h⟩ := h
  wp_walk using wpAny_loadPart' hl, wpAny_loadPart' hb
  rw [show ((i : Nat) : Int).toNat = i from rfl, hi1, hi2]
  refine wpAny_bind (EqAt.int_int y u y' u' prog w _ _ ?_)
  rw [show (y == y') = false from by simpa using hne]
  wp_walk using wpAny_loadPart' hl, wpAny_loadPart' hb
  rw [hi1, hi2]
  dsimp only
  exact wpAny_bind ((show wpAny (model prog w) _ (richCompare .Lt (.int y u) (.int y' u')) _ _ _ from PyProof.Rows.lt_int (Q := _) (wpAny_pure h)))

theorem list_lt {v : Value}
    (next : Meets (Builtin.«list.__eq__.loop» ⟨[.ref l, .ref b, rawInt (0 : Nat), rawInt 0], []⟩)
      (fun _ R s => s.heap.get? l = some (listOf items n) ∧ s.heap.get? b = some (listOf items2 n2) ∧ R (.ok (.ret v)) s)) :
    Meets (Builtin.«list.__lt__» ⟨[.ref l, .ref b], []⟩)
      (fun _ R s => s.heap.get? l = some (listOf items n) ∧ s.heap.get? b = some (listOf items2 n2) ∧ R (.ok (.ret v)) s) := by
  intro prog w A R s h
  obtain ⟨hp, g, d, tk, os⟩ := s; obtain ⟨hl, hb, h⟩ := h
  have f3 := AutoSeq1.sub_list_list
  wp_walk using wpAny_loadPart' hl, wpAny_loadPart' hb
  exact ⟨plainId_quiet plain_eq_loop _, codeAny_builtin entry_eq_loop (by
    rw [Around.under_plainId plain_eq_loop _]
    exact next prog w A R _ ⟨hl, hb, h⟩)⟩
end

theorem lt_pairs {prog : Program} {w : World} {A : Around} {E : Value → Shared → Prop} {s : Shared} {Q : Value → Shared → Prop} {l b : Addr} {x y x' y' : Int} {t u t' u' : Tok} {n n' : Nat}
    (hl : s.heap.get? l = some (listOf #[.int x t, .int y u] n)) (hb : s.heap.get? b = some (listOf #[.int x' t', .int y' u'] n')) (hu : A.units < cLine)
    (h : Q (.bool (ltP x y x' y')) s) : wpAny (model prog w) A (compareOp .Lt (.ref l) (.ref b)) Q E s := by
  refine cmp_ofLt ?_
  have go : Meets (Builtin.«list.__eq__.loop» ⟨[.ref l, .ref b, rawInt (0 : Nat), rawInt 0], []⟩)
      (fun _ R s => s.heap.get? l = some (listOf #[.int x t, .int y u] n) ∧ s.heap.get? b = some (listOf #[.int x' t', .int y' u'] n') ∧ R (.ok (.ret (.bool (ltP x y x' y')))) s) := by
    by_cases hx : x = x'
    · subst hx
      refine lt_eq 0 rfl rfl ?_
      by_cases hy : y = y'
      · subst hy
        refine lt_eq 1 rfl rfl ?_
        have e : ltP x y x y = false := by simp [ltP]
        rw [e]
        exact lt_end 2 rfl rfl rfl
      · have e : ltP x y x y' = decide (y < y') := by simp [ltP]
        rw [e]
        exact lt_ne 1 rfl rfl hy
    · have e : ltP x y x' y' = decide (x < x') := by simp [ltP, hx]
      rw [e]
      exact lt_ne 0 rfl rfl hx
  exact richCompare_meets_room (op := .Lt) ⟨_, hl, rfl⟩ ⟨_, hb, rfl⟩ F.slot_list_lt F.entry_list_lt (F.args_list_lt_2 _ _) (list_lt go)
    ⟨hl, hb, show Value.bool (ltP x y x' y') ≠ Value.notImplemented ∧ Q (.bool (ltP x y x' y')) s from ⟨(fun x => nomatch x), h⟩⟩ hu
end Mine

namespace Mine
abbrev dC : Cell := ⟨0, 0, 0⟩

section
variable {prog : Program} {w : World} {A : Around} {E : Value → Shared → Prop} {s : Shared} {h₀ h : Heap} {L D : Addr} {m : Str → Option Value} {news rest : List (Addr × Obj)} {n : Nat}

theorem fr_ps (ps : List (Str × Value)) (F : Fr h₀ L h m) (hp : ∀ p ∈ ps, m p.1 = some p.2) : ∃ u, Fr h₀ L h (kstB u ps) := by
  refine ⟨m, ?_⟩
  have : kstB m ps = m := funext fun z => kstB_eq hp fun _ => rfl
  rw [this]; exact F

theorem item_any {value slice : PySem.Expr} {vs : List Value} {k : Int} {i : Nat} {u : Tok} {v : Value} {Q : Value → Shared → Prop} (N : News h₀ L s.heap news) (hm : (D, listOf vs.toArray n) ∈ news)
    (hk : k = (i : Int)) (hfit : vs.length < 2 ^ 20) (hv : vs[i]? = some v) (hq : Q v s)
    (hs : subscripted slice false (.ref D) (.int k u) = operate [.ref D, .int k u] (getItem (.ref D) (.int k u)) := by with_unfolding_all rfl) :
    wpAny (model prog w) A (subscriptTail value slice (.ref D) (.int k u)) Q E s := by
  have hl : s.heap.IsList D vs.toArray := PySem.IsL.isList (n := n) (N _ hm).1
  have hi : i < vs.length := by
    rcases Nat.lt_or_ge i vs.length with h | h
    · exact h
    · rw [List.getElem?_eq_none h] at hv; cases hv
  refine tail_any hl.typeIs slot_list_getitem.lookup (wpAny_getItem_list hl (by omega) (by omega) ?_ hq) hs
  subst hk
  simpa using hv

theorem len_any {vs : List Value} {Q : Value → Shared → Prop} (N : News h₀ L s.heap news) (hm : (D, listOf vs.toArray n) ∈ news) (hfit : vs.length < 2 ^ 20)
    (hq : Q (.int vs.length (s.toks + 1)) { s with toks := s.toks + 1 + 1 }) : wpAny (model prog w) A (call (.builtin "len") [.ref D]) Q E s := by
  have hl : s.heap.IsList D vs.toArray := PySem.IsL.isList (n := n) (N _ hm).1
  refine PyProof.Rows.len_list hl (by rw [List.size_toArray]; omega) ?_
  simpa using hq

theorem pop_any {vs us : List Value} {y : Value} {Q : Value → Shared → Prop} (F : Fr h₀ L s.heap m) (N : News h₀ L s.heap ((D, listOf vs.toArray n) :: rest)) (hne : ∀ p ∈ rest, p.1 ≠ D) (hv : vs = us ++ [y]) (hfit : vs.length < 2 ^ 20)
    (hq : ∀ h', Fr h₀ L h' m → News h₀ L h' ((D, listOf us.toArray (n + 1)) :: rest) → Q y { s with heap := h' }) : wpAny (model prog w) A (call (.builtin "list.pop") [.ref D]) Q E s := by
  refine kl_pop F N (p := us) (y := y) ?_ (Upd.head hne) (by simp only [sizeLine]; omega) hq
  rw [List.toList_toArray, hv]
  exact kpa_last y us

theorem truthy_any {vs : List Value} {Q : Bool → Shared → Prop} (N : News h₀ L s.heap news) (hm : (D, listOf vs.toArray n) ∈ news) (hfit : vs.length < 2 ^ 20)
    (hq : Q (decide (0 < vs.length)) { s with toks := s.toks + 1 + 1 }) : wpAny (model prog w) A (truthy (.ref D)) Q E s := by
  have hl : s.heap.IsList D vs.toArray := PySem.IsL.isList (n := n) (N _ hm).1
  refine wpAny_truthy_list hl (by rw [List.size_toArray]; omega) ?_
  have e : (!vs.toArray.isEmpty) = decide (0 < vs.length) := by cases vs <;> simp
  rw [e]
  exact hq

theorem refs_get {cs : List Cell} {i : Nat} (hi : i < cs.length) : (refs cs)[i]? = some (ref (cs.getD i dC)) := by
  simp [refs, hi]
theorem refs_length (cs : List Cell) : (refs cs).length = cs.length := by simp [refs]
theorem refs_set (cs : List Cell) (i : Nat) (c : Cell) : refs (cs.set i c) = (refs cs).set i (ref c) := by simp [refs, List.map_set]

theorem set_any {vs : List Value} {k : Int} {i : Nat} {t : Tok} {v : Value} {Q : Unit → Shared → Prop} (F : Fr h₀ L s.heap m) (N : News h₀ L s.heap ((D, listOf vs.toArray n) :: rest)) (hne : ∀ p ∈ rest, p.1 ≠ D)
    (hk : k = (i : Int)) (hi : i < vs.length) (hfit : vs.length < 2 ^ 20)
    (hq : ∀ h', Fr h₀ L h' m → News h₀ L h' ((D, listOf (vs.set i v).toArray n) :: rest) → Q () { s with heap := h' }) :
    wpAny (model prog w) A (setItem (.ref D) (.int k t) v) Q E s := by
  have z := N (D, listOf vs.toArray n) (.head _)
  refine ki_setAt z.1 (by omega) (by omega) (by rw [List.size_toArray]; omega) (hq _ (F.change (Heap.SameBut.update ..) z.2.1 z.2.2) (ki_turn (pre := []) _ N (fun _ h => nomatch h) hne ?_ ?_))
  · subst hk
    show vs.toArray.setIfInBounds (i : Int).toNat v = (vs.set i v).toArray
    apply Array.toList_inj.mp
    simp
  · simp

theorem bears_at {rest : List (Addr × Obj)} {l : List Cell} {i : Nat} (hb : ∀ c ∈ l, Bears rest c) (hi : i < l.length) : Bears rest (l.getD i dC) := by
  refine hb _ ?_
  rw [List.getD_eq_getElem?_getD, List.getElem?_eq_getElem hi]
  exact List.getElem_mem hi
theorem bears_set {rest : List (Addr × Obj)} {l : List Cell} {i : Nat} {c : Cell} (hb : ∀ c ∈ l, Bears rest c) (hc : Bears rest c) : ∀ d ∈ l.set i c, Bears rest d := by
  intro d hd
  rcases List.mem_or_eq_of_mem_set hd with h | h
  · exact hb d h
  · rw [h]; exact hc

/-- the pair's order -/
def ltC (a b : Cell) : Bool := ltP a.num a.plc b.num b.plc

theorem lt_cells {Q : Value → Shared → Prop} {c d : Cell} {x : Addr × Obj} (N : News h₀ L s.heap (x :: rest)) (hc : Bears rest c) (hd : Bears rest d) (hu : A.units < cLine)
    (h : Q (.bool (ltC c d)) s) : wpAny (model prog w) A (compareOp .Lt (.ref c.ad) (.ref d.ad)) Q E s := by
  obtain ⟨t, u, n, hm⟩ := hc
  obtain ⟨t', u', n', hm'⟩ := hd
  exact lt_pairs (N _ (.tail _ hm)).1 (N _ (.tail _ hm')).1 hu h

/-- what a while's turn hands on -/
def WEnd (h₀ : Heap) (L : Addr) (s : Shared) (P : (Str → Option Value) → List (Addr × Obj) → Prop) (s₂ : Shared) : Prop :=
  ∃ h' tk' m' news', s₂ = { s with heap := h', toks := tk' } ∧ Fr h₀ L h' m' ∧ News h₀ L h' news' ∧ P m' news'

theorem WEnd.mk {h' : Heap} {tk' : Nat} {m' : Str → Option Value} {news' : List (Addr × Obj)} {P : (Str → Option Value) → List (Addr × Obj) → Prop} (F : Fr h₀ L h' m') (N : News h₀ L h' news') (hp : P m' news') :
    WEnd h₀ L s P { s with heap := h', toks := tk' } := ⟨h', tk', m', news', rfl, F, N, hp⟩

def WStep (h₀ : Heap) (L : Addr) (s : Shared) (J : Nat → (Str → Option Value) → List (Addr × Obj) → Prop) (P : (Str → Option Value) → List (Addr × Obj) → Prop) (n : Nat) (f : Flow) (s₂ : Shared) : Prop :=
  match f with
  | .ret _ => False
  | .brk => WEnd h₀ L s P s₂
  | .next => WEnd h₀ L s (fun m' news' => ∃ n', n' < n ∧ J n' m' news') s₂
  | .cont => WEnd h₀ L s (fun m' news' => ∃ n', n' < n ∧ J n' m' news') s₂

theorem while_rule {test : PySem.Expr} {body : List Stmt} {pos : Pos} {env : Env} {Q : Flow → Shared → Prop} {n₀ : Nat} (J : Nat → (Str → Option Value) → List (Addr × Obj) → Prop) (P : (Str → Option Value) → List (Addr × Obj) → Prop)
    (F : Fr h₀ L s.heap m) (N : News h₀ L s.heap news) (hJ : J n₀ m news)
    (turn : ∀ n m₁ news₁ h₁ tk₁, Fr h₀ L h₁ m₁ → News h₀ L h₁ news₁ → J n m₁ news₁ →
      wpAny (model prog w) A (isTrue test env (eval test env)) (fun b s₂ =>
        if b = true then wpAny (model prog w) A (execs body env) (WStep h₀ L s J P n) E s₂ else WEnd h₀ L s P s₂) E { s with heap := h₁, toks := tk₁ })
    (done : ∀ m₁ news₁ h₁ tk₁, Fr h₀ L h₁ m₁ → News h₀ L h₁ news₁ → P m₁ news₁ → Q .next { s with heap := h₁, toks := tk₁ })
    (hE : PassesOwn (model prog w) A env E := by passes_own) :
    wpAny (model prog w) A (exec (.While test body [] pos) env) Q E s := by
  refine While_inv2 J F N hJ (fun n m₁ news₁ h₁ tk₁ F₁ N₁ J₁ => ?_) hE
  refine wpAny_mono (turn n m₁ news₁ h₁ tk₁ F₁ N₁ J₁) (fun b s₂ p => ?_) fun _ _ x => x
  cases b with
  | false =>
    simp only [Bool.false_eq_true, if_false] at p ⊢
    obtain ⟨h', tk', m', news', rfl, F', N', hp⟩ := p
    exact done m' news' h' tk' F' N' hp
  | true =>
    simp only [if_true] at p ⊢
    refine wpAny_mono p (fun f s₃ q => ?_) fun _ _ x => x
    cases f with
    | ret v => exact q.elim
    | brk =>
      obtain ⟨h', tk', m', news', rfl, F', N', hp⟩ := q
      exact done m' news' h' tk' F' N' hp
    | next =>
      obtain ⟨h', tk', m', news', rfl, F', N', n', hn, hj⟩ := q
      exact ⟨h', tk', m', news', n', rfl, F', N', hn, hj⟩
    | cont =>
      obtain ⟨h', tk', m', news', rfl, F', N', n', hn, hj⟩ := q
      exact ⟨h', tk', m', news', n', rfl, F', N', hn, hj⟩
end
end Mine

namespace Mine

section
variable {prog : Program} {w : World} {A : Around} {E : Value → Shared → Prop} {s : Shared} {h₀ h : Heap} {L D : Addr} {m : Str → Option Value} {news rest : List (Addr × Obj)} {n : Nat} {env : Env} {x : Str} {body : List Stmt} {Q : Flow → Shared → Prop}

/-- no record: none of the iterators -/
def NF (o : Obj) : Prop := ∀ vs, o.data ≠ .fields vs
theorem nf_list {its : Array Value} {k : Nat} : NF (listOf its k) := fun _ e => nomatch e

theorem news_ne {a b : Addr} {o o' : Obj} (N : News h₀ L h news) (ha : (a, o) ∈ news) (hb : (b, o') ∈ news) (hc : ¬ NF o) (hc' : NF o') : a ≠ b := by
  intro e
  subst e
  have h1 : h.get? a = some o := (N _ ha).1
  have h2 : h.get? a = some o' := (N _ hb).1
  rw [h1] at h2
  exact hc (by rw [Option.some.inj h2]; exact hc')

theorem fr_loop {v : Value} {m₁ : Str → Option Value} (ps : List (Str × Value)) (F : Fr h₀ L h (fun y => if y = x then some v else m₁ y)) (hps : ∀ q ∈ ps, m₁ q.1 = some q.2) (hx : (ps.map (·.1)).contains x = false) : ∃ u, Fr h₀ L h (kstB u ((x, v) :: ps)) := by
  refine fr_ps _ F ?_
  intro q hq
  rcases List.mem_cons.mp hq with rfl | hq
  · exact if_pos rfl
  · refine (if_neg ?_).trans (hps q hq)
    intro e
    have : (ps.map (·.1)).contains x = true := List.contains_iff_mem.mpr (e ▸ List.mem_map.mpr ⟨q, hq, rfl⟩)
    rw [hx] at this
    cases this
theorem range_small {k : Nat} (hk : k < 1000) : Builtin.Range.small 0 (k : Int) 1 = true := by
  have h1 : ∀ i : Int, 0 ≤ i → i < 1001 → Builtin.Range.rangeFitsLong i = true := by
    intro i h0 h1
    unfold Builtin.Range.rangeFitsLong
    simp; omega
  have hs : Builtin.Range.rangeSize 0 (k : Int) 1 = k := by unfold Builtin.Range.rangeSize; rw [if_pos (by omega)]; split <;> omega
  unfold Builtin.Range.small
  rw [hs, h1 0 (by omega) (by omega), h1 k (by omega) (by omega), h1 1 (by omega) (by omega)]
  simp
  right
  unfold Builtin.Range.rangeFitsLong
  simp; omega
theorem range_size (k : Nat) : Builtin.Range.rangeSize 0 (k : Int) 1 = k := by unfold Builtin.Range.rangeSize; rw [if_pos (by omega)]; split <;> omega
theorem own_ne {a : Addr} {its : Array Value} {k : Nat} {own : List (Addr × Obj)} (N : News h₀ L h (own ++ (a, listOf its k) :: rest)) (hown : ∀ p ∈ own, ¬ NF p.2) : ∀ p ∈ own, p.1 ≠ a := by
  intro p hp
  exact news_ne (o := p.2) (o' := listOf its k) N (List.mem_append.mpr (.inl hp)) (List.mem_append.mpr (.inr (.head _))) (hown p hp) nf_list
theorem news_rot {a : Addr × Obj} {own : List (Addr × Obj)} (N : News h₀ L h (own ++ a :: rest)) : News h₀ L h (a :: (rest ++ own)) := fun p hp => N p (by
  rcases List.mem_cons.mp hp with rfl | hp
  · exact List.mem_append.mpr (.inr (.head _))
  · rcases List.mem_append.mp hp with hp | hp
    · exact List.mem_append.mpr (.inr (.tail _ hp))
    · exact List.mem_append.mpr (.inl hp))
theorem bears_app {own : List (Addr × Obj)} {c : Cell} (hb : Bears rest c) : Bears (rest ++ own) c := let ⟨t, u, n, h⟩ := hb; ⟨t, u, n, List.mem_append.mpr (.inl h)⟩

def FEnd (h₀ : Heap) (L : Addr) (own : List (Addr × Obj)) (Jn : (Str → Option Value) → List (Addr × Obj) → Prop) (s₁ s₂ : Shared) : Prop :=
  ∃ h' tk' m' news₂, s₂ = { s₁ with heap := h', toks := tk' } ∧ Fr h₀ L h' m' ∧ News h₀ L h' (own ++ news₂) ∧ (∀ q ∈ news₂, NF q.2) ∧ Jn m' news₂
def FStep (h₀ : Heap) (L : Addr) (own : List (Addr × Obj)) (Jn : (Str → Option Value) → List (Addr × Obj) → Prop) (s₁ : Shared) (Q : Flow → Shared → Prop) (f : Flow) (s₂ : Shared) : Prop :=
  match f with
  | .ret v => Q (.ret v) s₂
  | .brk => Q .next s₂
  | .next => FEnd h₀ L own Jn s₁ s₂
  | .cont => FEnd h₀ L own Jn s₁ s₂
theorem FEnd.mk {own : List (Addr × Obj)} {Jn : (Str → Option Value) → List (Addr × Obj) → Prop} {s₁ : Shared} {h' : Heap} {tk' : Nat} {m' : Str → Option Value} {news' : List (Addr × Obj)} (news₂ : List (Addr × Obj))
    (F : Fr h₀ L h' m') (N : News h₀ L h' news') (ho : ∀ p ∈ own, p ∈ news') (hn : ∀ p ∈ news₂, p ∈ news') (hc : ∀ q ∈ news₂, NF q.2) (hj : Jn m' news₂) : FEnd h₀ L own Jn s₁ { s₁ with heap := h', toks := tk' } :=
  ⟨h', tk', m', news₂, rfl, F, fun p hp => N p ((List.mem_append.mp hp).elim (ho p) (hn p)), hc, hj⟩

theorem loop_core {I : Addr} {fp : List Addr} {P : Nat → Value → Prop} {St : Nat → Heap → Prop} (W : Walks prog w A I fp [I] n P St) (hC : ∀ i h, St i h → ∃ o, h.get? I = some o ∧ ¬ NF o)
    (hLf : env.locals ∉ fp) (hI : h₀.get? I = none) (hst : St 0 s.heap) (F : Fr h₀ env.locals s.heap m) (N : News h₀ env.locals s.heap news) (hn : ∀ p ∈ news, NF p.2)
    (J : Nat → (Str → Option Value) → List (Addr × Obj) → Prop) (h0 : J 0 m news)
    (turn : ∀ i v m₁ news₁ h tk own, i < n → P i v → J i m₁ news₁ → (∀ q ∈ news₁, NF q.2) → (∀ p ∈ own, p.1 ∈ fp) → (∀ p ∈ own, p.1 = I → ¬ NF p.2) →
      Fr h₀ env.locals h (fun y => if y = x then some v else m₁ y) → News h₀ env.locals h (own ++ news₁) →
      wpAny (model prog w) A (execs body env) (FStep h₀ env.locals own (J (i + 1)) { s with heap := h, toks := tk } Q) E { s with heap := h, toks := tk })
    (done : ∀ h' tk m' news', Fr h₀ env.locals h' m' → News h₀ env.locals h' news' → (∀ q ∈ news', NF q.2) → J n m' news' → Q .next { s with heap := h', toks := tk }) :
    LoopAtV prog w A h₀ env x body Q E (.ref I) s := by
  refine ⟨I, fp, [I], n, P, St, m, news, fun i m₁ news₁ => (∀ q ∈ news₁, NF q.2) ∧ J i m₁ news₁, rfl, W, hLf, ?_, ?_, hst, F, N, ⟨hn, h0⟩, ?_, ?_⟩
  · intro b hb; rw [List.mem_singleton.mp hb]; exact hI
  · intro p hp hb
    have e := List.mem_singleton.mp hb
    obtain ⟨o, ho, hc⟩ := hC 0 _ hst
    have h1 := (N p hp).1
    rw [e, ho] at h1
    exact hc (by rw [Option.some.inj h1]; exact hn p hp)
  · rintro i v m₁ news₁ s₁ own ⟨h, tk, rfl⟩ hi hP ⟨hcl, hJ⟩ _ hfp hown hall hst₁ F₁ N₁
    obtain ⟨o, ho, hc⟩ := hC _ _ hst₁
    have hIn : (I, o) ∈ own := hall I (W.sub I (by simp)) hI o ho
    have hcls : ∀ p ∈ own, p.1 = I → ¬ NF p.2 := by
      intro p hp e
      have := hown p hp
      rw [e, ho] at this
      rw [← Option.some.inj this]; exact hc
    refine wpAny_mono (turn i v m₁ news₁ h tk own hi hP hJ hcl hfp hcls F₁ N₁) (fun f s₂ p => ?_) fun _ _ e => e
    have fin : FEnd h₀ env.locals own (J (i + 1)) { s with heap := h, toks := tk } s₂ → LoopStepU h₀ env.locals [I] own (fun m₁ news₁ => (∀ q ∈ news₁, NF q.2) ∧ J (i + 1) m₁ news₁) { s with heap := h, toks := tk } .next s₂ := by
      rintro ⟨h', tk', m', news₂, e, F', N', hc', hj⟩
      refine ⟨rfl, h', tk', m', news₂, e, F', N', ?_, hc', hj⟩
      intro p hp hb
      have e := List.mem_singleton.mp hb
      have h1 := (N' p (List.mem_append.mpr (.inr hp))).1
      have h2 := (N' (I, o) (List.mem_append.mpr (.inl hIn))).1
      rw [e, h2] at h1
      exact hc (by have e3 : o = p.2 := Option.some.inj h1; rw [e3]; exact hc' p hp)
    cases f with
    | ret v => exact .ret p
    | brk => exact .brk p
    | next => exact .next (fin p)
    | cont => exact .cont (fin p)
  · rintro h' tk m' news' F' N' _ ⟨hc, hJ⟩
    exact done h' tk m' news' F' N' hc hJ

theorem loop_range {I : Addr} {a₀ c : Int} (hh : A.handled = none) (hit : IsRangeIter s.heap I a₀ n c) (hI : h₀.get? I = none) (F : Fr h₀ env.locals s.heap m) (N : News h₀ env.locals s.heap news) (hn : ∀ p ∈ news, NF p.2) (hL : env.locals ≠ I)
    (J : Nat → (Str → Option Value) → List (Addr × Obj) → Prop) (h0 : J 0 m news)
    (turn : ∀ i t m₁ news₁ h tk own, i < n → J i m₁ news₁ → (∀ q ∈ news₁, NF q.2) → (∀ p ∈ own, ¬ NF p.2) →
      Fr h₀ env.locals h (fun y => if y = x then some (.int (a₀ + i * c) t) else m₁ y) → News h₀ env.locals h (own ++ news₁) →
      wpAny (model prog w) A (execs body env) (FStep h₀ env.locals own (J (i + 1)) { s with heap := h, toks := tk } Q) E { s with heap := h, toks := tk })
    (done : ∀ h' tk m' news', Fr h₀ env.locals h' m' → News h₀ env.locals h' news' → (∀ q ∈ news', NF q.2) → J n m' news' → Q .next { s with heap := h', toks := tk }) :
    LoopAtV prog w A h₀ env x body Q E (.ref I) s := by
  refine loop_core (Walks.range hh I a₀ c n) (fun i h st => ⟨_, st, fun e => e _ rfl⟩) (by simpa using hL) hI (by simpa using hit) F N hn J h0 ?_ done
  rintro i v m₁ news₁ h tk own hi ⟨t, rfl⟩ hJ hc hfp hcl F₁ N₁
  exact turn i t m₁ news₁ h tk own hi hJ hc (fun p hp => hcl p hp (by simpa using hfp p hp)) F₁ N₁

/-- a for over a range object -/
theorem iter_range {r : Addr} {a b c : Int} {t u v : Tok} (hh : A.handled = none) (hr : IsRange s.heap r a b c t u v) (hsmall : Builtin.Range.small a b c = true) (hsz : Builtin.Range.rangeSize a b c = (n : Int))
    (F : Fr h₀ env.locals s.heap m) (N : News h₀ env.locals s.heap news) (hn : ∀ p ∈ news, NF p.2)
    (J : Nat → (Str → Option Value) → List (Addr × Obj) → Prop) (h0 : J 0 m news)
    (turn : ∀ i t m₁ news₁ h tk own, i < n → J i m₁ news₁ → (∀ q ∈ news₁, NF q.2) → (∀ p ∈ own, ¬ NF p.2) →
      Fr h₀ env.locals h (fun y => if y = x then some (.int (a + i * c) t) else m₁ y) → News h₀ env.locals h (own ++ news₁) →
      wpAny (model prog w) A (execs body env) (FStep h₀ env.locals own (J (i + 1)) { s with heap := h, toks := tk } Q) E { s with heap := h, toks := tk })
    (done : ∀ h' tk m' news', Fr h₀ env.locals h' m' → News h₀ env.locals h' news' → (∀ q ∈ news', NF q.2) → J n m' news' → Q .next { s with heap := h', toks := tk }) :
    wpAny (model prog w) A (pyIter (.ref r)) (fun it s₂ => LoopAtV prog w A h₀ env x body Q E it s₂) E s := by
  refine wpAny_pyIter_range hr hsmall ?_
  rw [hsz]
  refine loop_range (s := { s with heap := s.heap.push _ }) hh (by simpa using Heap.get?_push_size _ rfl) (next_is_new F) (F.push _) (fun p hp => ⟨Heap.get?_push_of_some _ (N p hp).1, (N p hp).2⟩) hn ?_ J h0 turn done
  exact fun e => absurd F.ns.lt (e ▸ Nat.lt_irrefl _)

/-- a for over a list of the ledger -/
theorem iter_listA {ax : Addr} {vs : List Value} {k : Nat} (hh : A.handled = none) (hm : (ax, listOf vs.toArray k) ∈ news)
    (F : Fr h₀ env.locals s.heap m) (N : News h₀ env.locals s.heap news) (hn : ∀ p ∈ news, NF p.2)
    (J : Nat → (Str → Option Value) → List (Addr × Obj) → Prop) (h0 : J 0 m news)
    (turn : ∀ i v m₁ news₁ h tk own, vs[i]? = some v → J i m₁ news₁ → (∀ q ∈ news₁, NF q.2) → (∀ p ∈ own, ¬ NF p.2 ∨ p.1 = ax) →
      Fr h₀ env.locals h (fun y => if y = x then some v else m₁ y) → News h₀ env.locals h (own ++ news₁) →
      wpAny (model prog w) A (execs body env) (FStep h₀ env.locals own (J (i + 1)) { s with heap := h, toks := tk } Q) E { s with heap := h, toks := tk })
    (done : ∀ h' tk m' news', Fr h₀ env.locals h' m' → News h₀ env.locals h' news' → (∀ q ∈ news', NF q.2) → J vs.length m' news' → Q .next { s with heap := h', toks := tk }) :
    wpAny (model prog w) A (pyIter (.ref ax)) (fun it s₂ => LoopAtV prog w A h₀ env x body Q E it s₂) E s := by
  have hl : s.heap.IsList ax vs.toArray := PySem.IsL.isList (n := k) (N _ hm).1
  have hlt : ax < s.heap.objs.size := Heap.lt_size (N _ hm).1
  refine wpAny_pyIter_list hl ?_
  have W := Walks.list (prog := prog) (w := w) hh s.heap.objs.size ax (Nat.ne_of_lt hlt) vs.toArray
  refine loop_core (s := { s with heap := s.heap.push _ }) W (fun i h st => ?_) ?_ (next_is_new F) ⟨⟨_, Heap.get?_push_size _ rfl, rfl, rfl⟩, hl.at fun o e => Heap.get?_push_of_some _ e⟩ (F.push _) (fun p hp => ⟨Heap.get?_push_of_some _ (N p hp).1, (N p hp).2⟩) hn J h0 ?_ ?_
  · obtain ⟨⟨o, ho, hc, hd⟩, _⟩ := st
    exact ⟨o, ho, fun e => e _ hd⟩
  · intro hmem
    rcases List.mem_cons.mp hmem with e | hmem
    · exact absurd F.ns.lt (e ▸ Nat.lt_irrefl _)
    · exact (N _ hm).2.1 (List.mem_singleton.mp hmem).symm
  · rintro i v m₁ news₁ h tk own hi hv hJ hcl hfp hown F₁ N₁
    refine turn i v m₁ news₁ h tk own (by simpa using hv) hJ hcl (fun p hp => ?_) F₁ N₁
    rcases List.mem_cons.mp (hfp p hp) with e | e
    · exact .inl (hown p hp e)
    · exact .inr (List.mem_singleton.mp e)
  · intro h' tk m' news' F' N' hc hJ
    exact done h' tk m' news' F' N' hc (by simpa using hJ)

theorem name_it {r : Addr} {o : Obj} (_N : News h₀ L h ((r, o) :: rest)) : ∃ ra : Addr, ra = r := ⟨r, rfl⟩
theorem add_any {a b : Addr} {vs ws : List Value} {k j : Nat} {Q : Value → Shared → Prop} (F : Fr h₀ L s.heap m) (N : News h₀ L s.heap news) (ha : (a, listOf vs.toArray k) ∈ news) (hb : (b, listOf ws.toArray j) ∈ news) (hsz : vs.length + ws.length < 2 ^ 20)
    (hq : ∀ c h', Fr h₀ L h' m → News h₀ L h' ((c, listOf (vs ++ ws).toArray 0) :: news) → (∀ p ∈ news, p.1 < c) → Q (.ref c) { s with heap := h' }) : wpAny (model prog w) A (binaryOp .Add (.ref a) (.ref b)) Q E s :=
  add_lists F N (PySem.IsL.isList (N _ ha).1) (PySem.IsL.isList (N _ hb).1) (fun h' F' N' => hq _ h' F' N' fun p hp => Heap.lt_size (N p hp).1) (by rw [sizeLine_eq]; omega)

theorem append_any {vs : List Value} {v : Value} {Q : Value → Shared → Prop} (F : Fr h₀ L s.heap m) (N : News h₀ L s.heap ((D, listOf vs.toArray n) :: rest)) (hne : ∀ p ∈ rest, p.1 ≠ D) (hfit : vs.length < 2 ^ 20)
    (hq : ∀ h', Fr h₀ L h' m → News h₀ L h' ((D, listOf (vs ++ [v]).toArray (n + 1)) :: rest) → Q .none { s with heap := h' }) : wpAny (model prog w) A (call (.builtin "list.append") [.ref D, v]) Q E s := by
  refine append_K F N (Upd.head hne) (fun h' F' N' => hq h' F' ?_) (by rw [List.size_toArray, sizeLine_eq]; omega)
  rw [List.push_toArray] at N'
  exact N'

/-- a for over bytes -/
theorem iter_bytesA {b : Array UInt8} {tb : Tok} {ks : List Int} (hk : KBw.bInts b = ks) (hh : A.handled = none)
    (F : Fr h₀ env.locals s.heap m) (N : News h₀ env.locals s.heap news) (hn : ∀ p ∈ news, NF p.2)
    (J : Nat → (Str → Option Value) → List (Addr × Obj) → Prop) (h0 : J 0 m news)
    (turn : ∀ i k t m₁ news₁ h tk own, ks[i]? = some k → J i m₁ news₁ → (∀ q ∈ news₁, NF q.2) → (∀ p ∈ own, ¬ NF p.2) →
      Fr h₀ env.locals h (fun y => if y = x then some (.int k t) else m₁ y) → News h₀ env.locals h (own ++ news₁) →
      wpAny (model prog w) A (execs body env) (FStep h₀ env.locals own (J (i + 1)) { s with heap := h, toks := tk } Q) E { s with heap := h, toks := tk })
    (done : ∀ h' tk m' news', Fr h₀ env.locals h' m' → News h₀ env.locals h' news' → (∀ q ∈ news', NF q.2) → J ks.length m' news' → Q .next { s with heap := h', toks := tk }) :
    wpAny (model prog w) A (pyIter (.bytes b tb)) (fun it s₂ => LoopAtV prog w A h₀ env x body Q E it s₂) E s := by
  subst hk
  refine KBw.pyIter_bytes ?_
  refine loop_core (s := { s with heap := s.heap.push _ }) (KBw.walks hh s.heap.objs.size b tb) (fun i h st => ?_) ?_ (next_is_new F) ⟨_, Heap.get?_push_size _ rfl, rfl, rfl⟩ (F.push _) (fun p hp => ⟨Heap.get?_push_of_some _ (N p hp).1, (N p hp).2⟩) hn J h0 ?_ ?_
  · obtain ⟨o, ho, hc, hd⟩ := st
    exact ⟨o, ho, fun e => e _ hd⟩
  · intro hm
    exact absurd F.ns.lt ((List.mem_singleton.mp hm) ▸ Nat.lt_irrefl _)
  · rintro i v m₁ news₁ h tk own hi ⟨c, u, hc, rfl⟩ hJ hcl hfp hown F₁ N₁
    exact turn i _ u m₁ news₁ h tk own (KBw.ints_get hc) hJ hcl (fun p hp => hown p hp (List.mem_singleton.mp (hfp p hp))) F₁ N₁
  · intro h' tk m' news' F' N' hc hJ
    rw [← KBw.ints_length b] at hJ
    exact done h' tk m' news' F' N' hc hJ
end
end Mine

namespace Mine
section
variable {prog : Program} {w : World} {A : Around} {E : Value → Shared → Prop} {s : Shared}

theorem range_rev (r : Addr) (b : Int) (t u v : Tok) (hb : 0 ≤ b) (hb2 : b < 1000) :
    Meets (Builtin.«range.__reversed__» ⟨[.ref r], []⟩) (fun _ R s => IsRange s.heap r 0 b 1 t u v ∧ R (.ok (.ret (Value.ref s.heap.objs.size))) { s with heap := s.heap.push { cls := .type "range_iterator", data := .fields #[rawInt (b - 1), rawInt b, rawInt (-1)] } }) :=
  .of_wp fun prog w A R s h => by
    obtain ⟨hp, g, d, tk, os⟩ := s; obtain ⟨hl, h⟩ := h
    have hs : Builtin.Range.rangeSize 0 b 1 = b := by unfold Builtin.Range.rangeSize; rw [if_pos (by omega)]; split <;> omega
    wp_walk
    have h1 : Builtin.Range.rangeFitsLong b = true := by unfold Builtin.Range.rangeFitsLong; simp; omega
    have hall : (Builtin.Range.rangeFitsLong 0 && Builtin.Range.rangeFitsLong b && Builtin.Range.rangeFitsLong 1 && Builtin.Range.rangeFitsLong (-1) && Builtin.Range.rangeFitsLong (0 - 1) && Builtin.Range.rangeFitsLong (Builtin.Range.rangeSize 0 b 1)) = true := by
      rw [hs, h1]; decide
    rw [hall, hs]
    rw [if_neg (by decide), if_pos rfl, show (0 + (b - 1) * 1 : Int) = b - 1 from by omega]
    dsimp only
    refine wpAny_bind (wpAny_newObj_type ?_ (Nat.le_of_ble_eq_true rfl))
    exact wpAny_pure ⟨_, rfl, h⟩

theorem call_range_reversed {r : Addr} {b : Int} {t u v : Tok} {Q : Value → Shared → Prop} (hr : IsRange s.heap r 0 b 1 t u v) (hb : 0 ≤ b) (hb2 : b < 1000)
    (h : Q (.ref s.heap.objs.size) { s with heap := s.heap.push { cls := .type "range_iterator", data := .fields #[rawInt (b - 1), rawInt b, rawInt (-1)] } }) : wpAny (model prog w) A (call (.builtin "range.__reversed__") [.ref r]) Q E s :=
  call_meets F.slot_range_reversed ⟨_, hr, rfl⟩ F.entry_range_reversed (F.args_range_reversed_1 _) (range_rev r b t u v hb hb2) ⟨hr, h⟩

theorem sub_ri_reversed : isSubtype (.type "range_iterator") (.type "reversed") = pure false := by rw [isSubtype_type]; kernel_rfl

theorem code_reversed_range {r : Addr} {b : Int} {t u v : Tok} {Q₁ : Value → Shared → Prop} (hr : IsRange s.heap r 0 b 1 t u v) (hb : 0 ≤ b) (hb2 : b < 1000)
    (h : Q₁ (.ref s.heap.objs.size) { s with heap := s.heap.push { cls := .type "range_iterator", data := .fields #[rawInt (b - 1), rawInt b, rawInt (-1)] } }) :
    codeAny (model prog w) A (.call (.builtin "reversed.__new__") ⟨[.type "reversed", .ref r], []⟩) (wants Q₁ E) s := by
  have hT : s.TypeIs (.ref r) "range" := ⟨_, hr, rfl⟩
  refine codeAny_of_tree ?_
  show wpAny _ A.in1 (do checkBuiltinCall "reversed.__new__" ⟨[.type "reversed", .ref r], []⟩; again (.builtin "reversed.__new__" ⟨[.type "reversed", .ref r], []⟩)) _ _ s
  refine wpAny_bind (wpAny_of_eq (F.newCall_reversed_1 _) (wpAny_pure ⟨plainId_quiet F.plain_reversed_new _, codeAny_builtin F.entry_reversed_new ?_⟩))
  rw [Around.under_plainId F.plain_reversed_new _]
  unfold Builtin.«reversed.__new__»
  refine wpAny_bind (wpAny_of_eq (newClass_reversed _) ?_)
  try dsimp only
  refine wpAny_bind (wpAny_of_eq (a := ()) (by first | rfl | kernel_rfl) ?_)
  refine wpAny_bind (wpAny_of_eq (a := ()) (by first | rfl | kernel_rfl) ?_)
  try dsimp only
  refine wpAny_bind (wpAny_specialOf hT F.slot_range_reversed.lookup ?_)
  try dsimp only
  refine wpAny_bind (wpAny_of_eq (F.slot_range_reversed.bind _) ?_)
  try dsimp only
  rw [if_neg (show ¬ ((Value.builtin "range.__reversed__" == Value.none) = true) from Bool.false_ne_true)]
  refine wpAny_bind (wpAny_rule ?_)
  refine wpAny_bind (m := runValue (.call (.builtin "range.__reversed__") ⟨[.ref r], []⟩)) (show wpAny _ _ (call (.builtin "range.__reversed__") [.ref r]) _ _ _ from call_range_reversed hr hb hb2 ?_)
  first
  | exact wpAny_pure h
  | exact wpAny_bind (wpAny_pure (wpAny_pure h))

theorem call_reversed_range {r : Addr} {b : Int} {t u v : Tok} {Q : Value → Shared → Prop} (hr : IsRange s.heap r 0 b 1 t u v) (hb : 0 ≤ b) (hb2 : b < 1000)
    (h : Q (.ref s.heap.objs.size) { s with heap := s.heap.push { cls := .type "range_iterator", data := .fields #[rawInt (b - 1), rawInt b, rawInt (-1)] } }) : wpAny (model prog w) A (call (.type "reversed") [.ref r]) Q E s := by
  refine callType_other (U := "range_iterator") (Q₁ := fun obj s₁ => obj = .ref s.heap.objs.size ∧ s₁ = { s with heap := s.heap.push { cls := .type "range_iterator", data := .fields #[rawInt (b - 1), rawInt b, rawInt (-1)] } }) (by decide +kernel) F.create_reversed ⟨_, _, F.mro_reversed⟩ F.made_reversed sub_ri_reversed (F.typeCall_reversed_1 _) (code_reversed_range hr hb hb2 ⟨rfl, rfl⟩) ?_
  rintro obj s₁ ⟨rfl, rfl⟩
  exact ⟨⟨_, Heap.get?_push_size _ rfl, rfl⟩, h⟩
end
end Mine

namespace Mine
section
variable {prog : Program} {w : World} {A : Around} {E : Value → Shared → Prop} {s : Shared} {h₀ h : Heap} {L D : Addr} {m : Str → Option Value} {news rest : List (Addr × Obj)} {n : Nat} {env : Env} {x : Str} {body : List Stmt} {Q : Flow → Shared → Prop}

/-- loops whose ledger stays within what it was -/
def FEndK (h₀ : Heap) (L : Addr) (own : List (Addr × Obj)) (Jn : (Str → Option Value) → List (Addr × Obj) → Prop) (s₁ s₂ : Shared) : Prop :=
  ∃ h' tk' m' news₂, s₂ = { s₁ with heap := h', toks := tk' } ∧ Fr h₀ L h' m' ∧ News h₀ L h' (own ++ news₂) ∧ Jn m' news₂
def FStepK (h₀ : Heap) (L : Addr) (own : List (Addr × Obj)) (Jn : (Str → Option Value) → List (Addr × Obj) → Prop) (s₁ : Shared) (Q : Flow → Shared → Prop) (f : Flow) (s₂ : Shared) : Prop :=
  match f with
  | .ret v => Q (.ret v) s₂
  | .brk => Q .next s₂
  | .next => FEndK h₀ L own Jn s₁ s₂
  | .cont => FEndK h₀ L own Jn s₁ s₂
theorem FEndK.mk {own : List (Addr × Obj)} {Jn : (Str → Option Value) → List (Addr × Obj) → Prop} {s₁ : Shared} {h' : Heap} {tk' : Nat} {m' : Str → Option Value} {news' : List (Addr × Obj)} (news₂ : List (Addr × Obj))
    (F : Fr h₀ L h' m') (N : News h₀ L h' news') (ho : ∀ p ∈ own, p ∈ news') (hn : ∀ p ∈ news₂, p ∈ news') (hj : Jn m' news₂) : FEndK h₀ L own Jn s₁ { s₁ with heap := h', toks := tk' } :=
  ⟨h', tk', m', news₂, rfl, F, fun p hp => N p ((List.mem_append.mp hp).elim (ho p) (hn p)), hj⟩

theorem loop_coreK {I : Addr} {fp : List Addr} {P : Nat → Value → Prop} {St : Nat → Heap → Prop} (W : Walks prog w A I fp [I] n P St)
    (hLf : env.locals ∉ fp) (hI : h₀.get? I = none) (hst : St 0 s.heap) (F : Fr h₀ env.locals s.heap m) (N : News h₀ env.locals s.heap news) (hn : ∀ p ∈ news, p.1 ≠ I)
    (J : Nat → (Str → Option Value) → List (Addr × Obj) → Prop) (hJ : ∀ i m₁ news₁, J i m₁ news₁ → ∀ p ∈ news₁, p ∈ news) (h0 : J 0 m news)
    (turn : ∀ i v m₁ news₁ h tk own, i < n → P i v → J i m₁ news₁ →
      Fr h₀ env.locals h (fun y => if y = x then some v else m₁ y) → News h₀ env.locals h (own ++ news₁) →
      wpAny (model prog w) A (execs body env) (FStepK h₀ env.locals own (J (i + 1)) { s with heap := h, toks := tk } Q) E { s with heap := h, toks := tk })
    (done : ∀ h' tk m' news', Fr h₀ env.locals h' m' → News h₀ env.locals h' news' → J n m' news' → Q .next { s with heap := h', toks := tk }) :
    LoopAtV prog w A h₀ env x body Q E (.ref I) s := by
  refine ⟨I, fp, [I], n, P, St, m, news, J, rfl, W, hLf, ?_, ?_, hst, F, N, h0, ?_, ?_⟩
  · intro b hb; rw [List.mem_singleton.mp hb]; exact hI
  · intro p hp hb
    exact hn p hp (List.mem_singleton.mp hb)
  · rintro i v m₁ news₁ s₁ own ⟨h, tk, rfl⟩ hi hP hj _ hfp hown hall hst₁ F₁ N₁
    refine wpAny_mono (turn i v m₁ news₁ h tk own hi hP hj F₁ N₁) (fun f s₂ p => ?_) fun _ _ e => e
    have fin : FEndK h₀ env.locals own (J (i + 1)) { s with heap := h, toks := tk } s₂ → LoopStepU h₀ env.locals [I] own (J (i + 1)) { s with heap := h, toks := tk } .next s₂ := by
      rintro ⟨h', tk', m', news₂, e, F', N', hj⟩
      refine ⟨rfl, h', tk', m', news₂, e, F', N', ?_, hj⟩
      intro p hp hb
      exact hn p (hJ _ _ _ hj p hp) (List.mem_singleton.mp hb)
    cases f with
    | ret v => exact .ret p
    | brk => exact .brk p
    | next => exact .next (fin p)
    | cont => exact .cont (fin p)
  · rintro h' tk m' news' F' N' _ hJ
    exact done h' tk m' news' F' N' hJ

theorem iter_rangeK {r : Addr} {a b c : Int} {t u v : Tok} (hh : A.handled = none) (hr : IsRange s.heap r a b c t u v) (hsmall : Builtin.Range.small a b c = true) (hsz : Builtin.Range.rangeSize a b c = (n : Int))
    (F : Fr h₀ env.locals s.heap m) (N : News h₀ env.locals s.heap news)
    (J : Nat → (Str → Option Value) → List (Addr × Obj) → Prop) (hJ : ∀ i m₁ news₁, J i m₁ news₁ → ∀ p ∈ news₁, p ∈ news) (h0 : J 0 m news)
    (turn : ∀ i t m₁ news₁ h tk own, i < n → J i m₁ news₁ →
      Fr h₀ env.locals h (fun y => if y = x then some (.int (a + i * c) t) else m₁ y) → News h₀ env.locals h (own ++ news₁) →
      wpAny (model prog w) A (execs body env) (FStepK h₀ env.locals own (J (i + 1)) { s with heap := h, toks := tk } Q) E { s with heap := h, toks := tk })
    (done : ∀ h' tk m' news', Fr h₀ env.locals h' m' → News h₀ env.locals h' news' → J n m' news' → Q .next { s with heap := h', toks := tk }) :
    wpAny (model prog w) A (pyIter (.ref r)) (fun it s₂ => LoopAtV prog w A h₀ env x body Q E it s₂) E s := by
  refine wpAny_pyIter_range hr hsmall ?_
  rw [hsz]
  refine loop_coreK (s := { s with heap := s.heap.push _ }) (Walks.range hh s.heap.objs.size a c n) ?_ (next_is_new F) (by simpa using Heap.get?_push_size _ rfl) (F.push _) (fun p hp => ⟨Heap.get?_push_of_some _ (N p hp).1, (N p hp).2⟩) (fun p hp => Nat.ne_of_lt (Heap.lt_size (N p hp).1)) J hJ h0 ?_ done
  · intro hm
    exact absurd F.ns.lt ((List.mem_singleton.mp hm) ▸ Nat.lt_irrefl _)
  · rintro i v m₁ news₁ h tk own hi ⟨t, rfl⟩ hj F₁ N₁
    exact turn i t m₁ news₁ h tk own hi hj F₁ N₁

theorem iter_bytesK {b : Array UInt8} {tb : Tok} {ks : List Int} (hk : KBw.bInts b = ks) (hh : A.handled = none)
    (F : Fr h₀ env.locals s.heap m) (N : News h₀ env.locals s.heap news)
    (J : Nat → (Str → Option Value) → List (Addr × Obj) → Prop) (hJ : ∀ i m₁ news₁, J i m₁ news₁ → ∀ p ∈ news₁, p ∈ news) (h0 : J 0 m news)
    (turn : ∀ i k t m₁ news₁ h tk own, ks[i]? = some k → J i m₁ news₁ →
      Fr h₀ env.locals h (fun y => if y = x then some (.int k t) else m₁ y) → News h₀ env.locals h (own ++ news₁) →
      wpAny (model prog w) A (execs body env) (FStepK h₀ env.locals own (J (i + 1)) { s with heap := h, toks := tk } Q) E { s with heap := h, toks := tk })
    (done : ∀ h' tk m' news', Fr h₀ env.locals h' m' → News h₀ env.locals h' news' → J ks.length m' news' → Q .next { s with heap := h', toks := tk }) :
    wpAny (model prog w) A (pyIter (.bytes b tb)) (fun it s₂ => LoopAtV prog w A h₀ env x body Q E it s₂) E s := by
  subst hk
  refine KBw.pyIter_bytes ?_
  refine loop_coreK (s := { s with heap := s.heap.push _ }) (KBw.walks hh s.heap.objs.size b tb) ?_ (next_is_new F) ⟨_, Heap.get?_push_size _ rfl, rfl, rfl⟩ (F.push _) (fun p hp => ⟨Heap.get?_push_of_some _ (N p hp).1, (N p hp).2⟩) (fun p hp => Nat.ne_of_lt (Heap.lt_size (N p hp).1)) J hJ h0 ?_ ?_
  · intro hm
    exact absurd F.ns.lt ((List.mem_singleton.mp hm) ▸ Nat.lt_irrefl _)
  · rintro i v m₁ news₁ h tk own hi ⟨c, u, hc, rfl⟩ hj F₁ N₁
    exact turn i _ u m₁ news₁ h tk own (KBw.ints_get hc) hj F₁ N₁
  · intro h' tk m' news' F' N' hj
    rw [← KBw.ints_length b] at hj
    exact done h' tk m' news' F' N' hj
end
end Mine

namespace Mine
open PyProof.Rows.LCg
section
variable {prog : Program} {w : World} {A : Around} {s : Shared} {h₀ : Heap} {L : Addr} {m : Str → Option Value} {env : Env}
/-- a comprehension by what holds of it -/
theorem comp_ind {elt : PySem.Expr} {x : Str} {scope : Scope} {cl : List (Str × Addr)} {S : List (Addr × Obj) → Prop} {P : Nat → Value → Prop} {Fin : List Value → List (Addr × Obj) → Prop} {n : Nat}
    (J : Nat → List Value → List (Addr × Obj) → Prop) (fin : ∀ ys news, J n ys news → Fin ys news)
    (step : ∀ i ys news v I oI C oC D m₂ h tk (E' : Value → Shared → Prop), i < n → J i ys news → P i v → NsObj oC m₂ → m₂ x = some v → Fr h₀ L h m → News h₀ L h ((I, oI) :: (C, oC) :: (D, lst ys) :: news) → Off3 I C D news → ((@Ne Nat I C) ∧ (@Ne Nat I D) ∧ (@Ne Nat C D)) →
      wpAny (model prog w) A (eval elt (compEnvC scope cl C env)) (CompEnd h₀ L m { s with heap := h, toks := tk } I oI C oC D (lst ys) S (fun y news' => J (i + 1) (ys ++ [y]) news')) E' { s with heap := h, toks := tk }) :
    ∀ k i ys news, i + k = n → J i ys news → CompRest prog w A h₀ L m env elt x scope cl s S P Fin k i ys news := by
  intro k
  induction k with
  | zero =>
    intro i ys news hk hj
    exact fin ys news (by rw [← hk]; exact hj)
  | succ k ih =>
    intro i ys news hk hj v I oI C oC D m₂ h tk E' hP hC hx F N off ne
    refine wpAny_mono (step i ys news v I oI C oC D m₂ h tk E' (by omega) hj hP hC hx F N off ne) (fun y s₂ hq => ?_) fun _ _ e => e
    obtain ⟨h', tk', news', e, F', N', off', hS, hj'⟩ := hq
    exact ⟨h', tk', news', e, F', N', off', hS, ih (i + 1) (ys ++ [y]) news' (by omega) hj'⟩
end
end Mine

namespace Mine
open PySem.SeqAt
section
variable {prog : Program} {w : World} {A : Around} {E : Value → Shared → Prop} {s : Shared} {h₀ : Heap} {L a b : Addr} {news : List (Addr × Obj)} {vs : List Value} {n k : Nat}
/-- a list of the ledger against the empty one -/
theorem eq_nil {Q : Value → Shared → Prop} (N : News h₀ L s.heap news) (ha : (a, listOf vs.toArray n) ∈ news) (hb : (b, listOf #[] k) ∈ news) (hu : A.units < cLine) (h : Q (.bool (decide (vs.length = 0))) s) :
    wpAny (model prog w) A (compareOp .Eq (.ref a) (.ref b)) Q E s := by
  have hl : s.heap.IsList a vs.toArray := PySem.IsL.isList (n := n) (N _ ha).1
  have hl' : s.heap.IsList b #[] := PySem.IsL.isList (n := k) (N _ hb).1
  refine cmp_ofEq ?_
  by_cases e : vs.length = 0
  · have e2 := List.length_eq_zero_iff.mp e
    subst e2
    have := RcAt.lists (A := A) (e := fun _ => true) hl hl' rfl hu (fun j h1 _ => absurd h1 (by simp))
    exact this prog w E Q (by simpa using h)
  · have := RcAt.lists_lengths (A := A) hl hl' (by simp; intro e3; exact e (by rw [e3]; rfl)) hu
    refine this prog w E Q ?_
    rw [decide_eq_false e] at h
    exact h
end
end Mine

namespace Mine
local macro_rules | `(tactic| k_steps) => `(tactic| repeat' (first
  | (fail_if_success (with_reducible show wpAny _ _ (exec (Stmt.While _ _ _ _) _) _ _ _)); (fail_if_success (with_reducible show wpAny _ _ (exec (Stmt.For _ _ _ _ _) _) _ _ _)); (first | (k_unfold; (try dsimp only)) | (k_end; wrow_close) | walk1 | (dsimp only; walk1) | (leave1; walk_say "STEP leave1"; try dsimp only))
  | fail "no step"))
theorem fillH : (fun (_ : OpenLaw) (_ : Params → Frag) => True) PySem.Challenge.rw_mr0190_01 hd.heap_39 := by k_fill; trivial

abbrev gtC (a b : Cell) : Bool := ltC b a

/-- the way up from pos to st -/
def dn (lt : Cell → Cell → Bool) (x : Cell) (st : Nat) (pos : Nat) (l : List Cell) : List Cell :=
  if h : st < pos then (if lt x (l.getD ((pos - 1) / 2) dC) then dn lt x st ((pos - 1) / 2) (l.set pos (l.getD ((pos - 1) / 2) dC)) else l.set pos x) else l.set pos x
termination_by pos
decreasing_by omega

theorem half_up {k : Nat} (hk : 0 < k) : ((k : Int) - 1).fdiv (2 ^ Int.toNat 1) = (((k - 1) / 2 : Nat) : Int) := by
  have h1 : (2 ^ Int.toNat 1 : Int) = 2 := rfl
  rw [h1, Int.fdiv_eq_ediv_of_nonneg _ (by omega)]
  omega

abbrev PreD (hp : Addr) (l : List Cell) (n : Nat) (rest : List (Addr × Obj)) (st pos : Nat) (news : List (Addr × Obj)) (vs : List Value) : Prop :=
  news = (hp, listOf (refs l).toArray n) :: rest ∧ (∃ a t b u, vs = [.ref hp, .int a t, .int b u] ∧ a = (st : Int) ∧ b = (pos : Int)) ∧ pos < l.length ∧ l.length < 100 ∧ (∀ p ∈ rest, p.1 ≠ hp) ∧ ∀ c ∈ l, Bears rest c

/-- the child that goes up -/
def kid (lt : Cell → Cell → Bool) (l : List Cell) (pos : Nat) : Nat :=
  if 2 * pos + 2 < l.length ∧ lt (l.getD (2 * pos + 1) dC) (l.getD (2 * pos + 2) dC) = false then 2 * pos + 2 else 2 * pos + 1

/-- the way down to a leaf -/
def up (lt : Cell → Cell → Bool) (pos : Nat) (l : List Cell) : Nat × List Cell :=
  if _h : 2 * pos + 1 < l.length then up lt (kid lt l pos) (l.set pos (l.getD (kid lt l pos) dC)) else (pos, l)
termination_by l.length - pos
decreasing_by
  have : pos < kid lt l pos ∧ kid lt l pos < l.length := by unfold kid; split <;> omega
  simp only [List.length_set]; omega

def siftup (lt : Cell → Cell → Bool) (pos : Nat) (l : List Cell) : List Cell :=
  dn lt (l.getD pos dC) pos (up lt pos l).1 ((up lt pos l).2.set (up lt pos l).1 (l.getD pos dC))

abbrev PreU (hp : Addr) (l : List Cell) (n : Nat) (rest : List (Addr × Obj)) (pos : Nat) (news : List (Addr × Obj)) (vs : List Value) : Prop :=
  news = (hp, listOf (refs l).toArray n) :: rest ∧ (∃ a u, vs = [.ref hp, .int a u] ∧ a = (pos : Int)) ∧ pos < l.length ∧ l.length < 100 ∧ (∀ p ∈ rest, p.1 ≠ hp) ∧ ∀ c ∈ l, Bears rest c

theorem getD_set {l : List Cell} {i : Nat} {x : Cell} (hi : i < l.length) : (l.set i x).getD i dC = x := by
  rw [List.getD_eq_getElem?_getD, List.getElem?_set_self hi]; rfl

/-- what a pop leaves -/
def popL (lt : Cell → Cell → Bool) (l : List Cell) : List Cell :=
  if l.length ≤ 1 then [] else siftup lt 0 (l.dropLast.set 0 (l.getD (l.length - 1) dC))

theorem refs_last {l : List Cell} (h : 0 < l.length) : refs l = refs l.dropLast ++ [ref (l.getD (l.length - 1) dC)] := by
  have e : l = l.dropLast ++ [l.getD (l.length - 1) dC] := by
    have h1 : l ≠ [] := by intro h2; rw [h2] at h; exact absurd h (by decide)
    have h3 := (List.dropLast_concat_getLast h1).symm
    have h4 : l.getLast h1 = l.getD (l.length - 1) dC := by
      rw [List.getLast_eq_getElem, List.getD_eq_getElem?_getD, List.getElem?_eq_getElem (by omega)]; rfl
    rw [h4] at h3
    exact h3
  conv => lhs; rw [e]
  simp [refs]

theorem getD_drop {l : List Cell} (h : 0 < l.length - 1) : l.dropLast.getD 0 dC = l.getD 0 dC := by
  match l, h with
  | a :: b :: r, _ => rfl
theorem drop_one {l : List Cell} (h : l.length = 1) : l.dropLast = [] := by
  match l, h with
  | [a], _ => rfl
theorem bears_drop {rest : List (Addr × Obj)} {l : List Cell} (hb : ∀ c ∈ l, Bears rest c) : ∀ c ∈ l.dropLast, Bears rest c := fun c hc => hb c (List.dropLast_subset l hc)

theorem dn_length (lt : Cell → Cell → Bool) (x : Cell) (st : Nat) : ∀ (pos : Nat) (l : List Cell), (dn lt x st pos l).length = l.length := by
  intro pos
  induction pos using Nat.strongRecOn with
  | ind pos ih =>
    intro l
    rw [dn]
    split
    · split
      · rw [ih _ (by omega), List.length_set]
      · rw [List.length_set]
    · rw [List.length_set]
theorem kid_lt {lt : Cell → Cell → Bool} {l : List Cell} {pos : Nat} (h : 2 * pos + 1 < l.length) : pos < kid lt l pos ∧ kid lt l pos < l.length := by
  unfold kid; split <;> omega
theorem up_length (lt : Cell → Cell → Bool) : ∀ (k pos : Nat) (l : List Cell), l.length - pos = k → (up lt pos l).2.length = l.length := by
  intro k
  induction k using Nat.strongRecOn with
  | ind k ih =>
    intro pos l hk
    rw [up]
    split
    · rename_i h
      have := kid_lt (lt := lt) h
      rw [ih _ (by rw [List.length_set]; omega) _ _ rfl, List.length_set]
    · rfl
theorem siftup_length (lt : Cell → Cell → Bool) (pos : Nat) (l : List Cell) : (siftup lt pos l).length = l.length := by
  unfold siftup
  rw [dn_length, List.length_set, up_length lt _ _ _ rfl]
theorem dn_bears {rest : List (Addr × Obj)} {lt : Cell → Cell → Bool} {x : Cell} {st : Nat} (hx : Bears rest x) : ∀ (pos : Nat) (l : List Cell), pos < l.length → (∀ c ∈ l, Bears rest c) → ∀ c ∈ dn lt x st pos l, Bears rest c := by
  intro pos
  induction pos using Nat.strongRecOn with
  | ind pos ih =>
    intro l hp hb
    rw [dn]
    split
    · split
      · exact ih _ (by omega) _ (by rw [List.length_set]; omega) (bears_set hb (bears_at hb (by omega)))
      · exact bears_set hb hx
    · exact bears_set hb hx
theorem up_bears {rest : List (Addr × Obj)} {lt : Cell → Cell → Bool} : ∀ (k pos : Nat) (l : List Cell), l.length - pos = k → pos < l.length → (∀ c ∈ l, Bears rest c) → (up lt pos l).1 < l.length ∧ ∀ c ∈ (up lt pos l).2, Bears rest c := by
  intro k
  induction k using Nat.strongRecOn with
  | ind k ih =>
    intro pos l hk hp hb
    rw [up]
    split
    · rename_i h
      have hk' := kid_lt (lt := lt) h
      have := ih _ (by rw [List.length_set]; omega) (kid lt l pos) (l.set pos (l.getD (kid lt l pos) dC)) rfl (by rw [List.length_set]; omega) (bears_set hb (bears_at hb hk'.2))
      rw [List.length_set] at this
      exact this
    · exact ⟨hp, hb⟩
theorem siftup_bears {rest : List (Addr × Obj)} {lt : Cell → Cell → Bool} {pos : Nat} {l : List Cell} (hp : pos < l.length) (hb : ∀ c ∈ l, Bears rest c) : ∀ c ∈ siftup lt pos l, Bears rest c := by
  have h1 := up_bears (lt := lt) _ pos l rfl hp hb
  unfold siftup
  refine dn_bears (bears_at hb hp) _ _ ?_ (bears_set h1.2 (bears_at hb hp))
  rw [List.length_set, up_length lt _ _ _ rfl]
  exact h1.1

/-- heapify's steps from i - 1 down to 0 -/
def fyL (lt : Cell → Cell → Bool) : Nat → List Cell → List Cell
  | 0, l => l
  | i + 1, l => fyL lt i (siftup lt i l)

theorem sd {prog : Program} {w : World} {mean : ExcName → Option Value} {mg mb : Str → Option Value} (hp : Addr) (l : List Cell) (n : Nat) (rest : List (Addr × Obj)) (i j : Nat) :
   Con prog w mean mg mb 63 1 (PreD hp l n rest i j) (fun _ _ r news' => r = .none ∧ news' = (hp, listOf (refs (dn ltC (l.getD j dC) i j l)).toArray n) :: rest) := by
  unfold Con
  intro dp un gd cn cs a ccd cl outer A₀ base h₀ L m news s vs Q E B F X N T hk hR hd hu hret
  obtain ⟨rfl, ⟨_, t, _, u, rfl, rfl, rfl⟩, hj, hlen, hne, hb⟩ := hR
  refine wpAny_call ?_
  k_dflt ktr_enter
  rename News _ _ _ _ => N'
  rename Fr _ _ _ _ => F'
  obtain ⟨u0, F1⟩ := fr_ps [(Str.ofString "heap", .ref hp), (Str.ofString "startpos", .int i t), (Str.ofString "pos", .int j u)] F' (by kst_all)
  clear F'
  dsimp only [kstB] at F1
  k_steps
  refine item_any N' (.head _) rfl (by rw [refs_length]; omega) (refs_get hj) ?_
  k_steps
  rename News _ _ _ _ => N2
  rename Fr _ _ _ _ => F2
  refine while_rule (n₀ := j)
    (fun k m₁ news₁ => ∃ l' tp, news₁ = (hp, listOf (refs l').toArray n) :: rest ∧ k < l'.length ∧ l'.length < 100 ∧ (∀ c ∈ l', Bears rest c) ∧ dn ltC (l.getD j dC) i k l' = dn ltC (l.getD j dC) i j l ∧
      ∀ p ∈ [(Str.ofString "heap", Value.ref hp), (Str.ofString "startpos", .int i t), (Str.ofString "pos", .int k tp), (Str.ofString "newitem", ref (l.getD j dC))], m₁ p.1 = some p.2)
    (fun m₁ news₁ => ∃ l' k tp, news₁ = (hp, listOf (refs l').toArray n) :: rest ∧ k < l'.length ∧ l'.length < 100 ∧ l'.set k (l.getD j dC) = dn ltC (l.getD j dC) i j l ∧
      ∀ p ∈ [(Str.ofString "heap", Value.ref hp), (Str.ofString "startpos", .int i t), (Str.ofString "pos", .int k tp), (Str.ofString "newitem", ref (l.getD j dC))], m₁ p.1 = some p.2)
    F2 N2 ⟨l, u, rfl, hj, hlen, hb, rfl, by kst_all⟩ ?_ ?_
  · clear F2 N2
    rintro k m₁ news₁ h₁ tk₁ F3 N3 ⟨l', tp, rfl, hkl, hlen', hb', hdn, hps⟩
    obtain ⟨u1, F4⟩ := fr_ps _ F3 hps
    clear F3 hps
    dsimp only [kstB] at F4
    k_steps
    · rename News _ _ _ _ => N5
      rename ((i : Int) < _) => hik
      have hpk : (k - 1) / 2 < l'.length := by omega
      refine item_any N5 (.head _) (half_up (by omega)) (by rw [refs_length]; omega) (refs_get hpk) ?_
      k_steps
      rename News _ _ _ _ => N6
      refine lt_cells N6 (bears_at hb hj) (bears_at hb' hpk) (by ktr_units) ?_
      k_steps
      · rename ltC _ _ = true => hlt
        rename Fr _ _ _ _ => F6
        refine set_any F6 N6 hne rfl (by rw [refs_length]; exact hkl) (by rw [refs_length]; omega) (fun h' F7 N7 => ?_)
        rw [← refs_set] at N7
        clear F6 N6
        k_steps
        rename News _ _ _ _ => N8
        rename Fr _ _ _ _ => F8
        dsimp only
        refine WEnd.mk F8 N8 ⟨(k - 1) / 2, by omega, _, ?tok, rfl, by rw [List.length_set]; omega, by rw [List.length_set]; omega, bears_set hb' (bears_at hb' hpk), ?eqn, ?fr⟩
        case fr =>
          rw [← half_up (by omega : 0 < k)]
          kst_all
        case eqn =>
          rw [← hdn]
          conv => rhs; rw [dn]
          rw [dif_pos (by omega), if_pos (show ltC _ _ = true from hlt)]
      · rename ltC _ _ = false => hlt
        rename Fr _ _ _ _ => F6
        dsimp only
        refine WEnd.mk F6 N6 ⟨l', k, tp, rfl, hkl, hlen', ?_, by kst_all⟩
        rw [← hdn, dn, dif_pos (by omega), if_neg (by rw [show ltC _ _ = false from hlt]; exact Bool.false_ne_true)]
    · rename (¬ (i : Int) < _) => hik
      refine WEnd.mk F4 N3 ⟨l', k, tp, rfl, hkl, hlen', ?_, by kst_all⟩
      rw [← hdn, dn, dif_neg (by omega)]
  · clear F2 N2
    rintro m₁ news₁ h₁ tk₁ F3 N3 ⟨l', k, tp, rfl, hkl, hlen', hset, hps⟩
    obtain ⟨u1, F4⟩ := fr_ps _ F3 hps
    clear F3 hps
    dsimp only [kstB] at F4
    k_steps
    refine set_any F4 N3 hne rfl (by rw [refs_length]; exact hkl) (by rw [refs_length]; omega) (fun h' F7 N7 => ?_)
    rw [← refs_set, hset] at N7
    clear F4 N3
    k_steps
    exact hret _ _ _ _ (by assumption) (by assumption) ⟨rfl, rfl⟩

theorem su {prog : Program} {w : World} {mean : ExcName → Option Value} {mg mb : Str → Option Value} (hp : Addr) (l : List Cell) (n : Nat) (rest : List (Addr × Obj)) (j : Nat) :
   Con prog w mean mg mb 70 2 (PreU hp l n rest j) (fun _ _ r news' => r = .none ∧ news' = (hp, listOf (refs (siftup ltC j l)).toArray n) :: rest) := by
  unfold Con
  intro dp un gd cn cs a ccd cl outer A₀ base h₀ L m news s vs Q E B F X N T hk hR hd hu hret
  obtain ⟨rfl, ⟨_, u, rfl, rfl⟩, hj, hlen, hne, hb⟩ := hR
  refine wpAny_call ?_
  k_dflt ktr_enter
  rename News _ _ _ _ => N'
  rename Fr _ _ _ _ => F'
  obtain ⟨u0, F1⟩ := fr_ps [(Str.ofString "heap", .ref hp), (Str.ofString "pos", .int j u)] F' (by kst_all)
  clear F'
  dsimp only [kstB] at F1
  k_steps
  refine len_any N' (.head _) (by rw [refs_length]; omega) ?_
  rw [refs_length]
  k_steps
  rename News _ _ _ _ => N2
  refine item_any N2 (.head _) rfl (by rw [refs_length]; omega) (refs_get hj) ?_
  k_steps
  rename News _ _ _ _ => N2
  rename Fr _ _ _ _ => F2
  refine while_rule (n₀ := l.length - j)
    (fun k m₁ news₁ => ∃ l' p t1 t2 t3, k = l.length - p ∧ news₁ = (hp, listOf (refs l').toArray n) :: rest ∧ p < l.length ∧ l'.length = l.length ∧ (∀ c ∈ l', Bears rest c) ∧ up ltC p l' = up ltC j l ∧
      ∀ q ∈ [(Str.ofString "heap", Value.ref hp), (Str.ofString "startpos", .int j u), (Str.ofString "pos", .int p t1), (Str.ofString "childpos", .int (2 * p + 1) t2), (Str.ofString "endpos", .int l.length t3), (Str.ofString "newitem", ref (l.getD j dC))], m₁ q.1 = some q.2)
    (fun m₁ news₁ => ∃ l' p t1, news₁ = (hp, listOf (refs l').toArray n) :: rest ∧ p < l.length ∧ l'.length = l.length ∧ (∀ c ∈ l', Bears rest c) ∧ up ltC j l = (p, l') ∧
      ∀ q ∈ [(Str.ofString "heap", Value.ref hp), (Str.ofString "startpos", .int j u), (Str.ofString "pos", .int p t1), (Str.ofString "newitem", ref (l.getD j dC))], m₁ q.1 = some q.2)
    F2 N2 ⟨l, j, _, _, _, rfl, rfl, hj, rfl, hb, rfl, by kst_all⟩ ?_ ?_
  · clear F2 N2
    rintro k m₁ news₁ h₁ tk₁ F3 N3 ⟨l', p, t1, t2, t3, rfl, rfl, hpl, hlen', hb', hup, hps⟩
    obtain ⟨u1, F4⟩ := fr_ps _ F3 hps
    clear F3 hps
    dsimp only [kstB] at F4
    k_steps
    · rename (2 * (p : Int) + 1 < _) => hc1
      rename (2 * (p : Int) + 1 + 1 < _) => hc2
      rename News _ _ _ _ => N5
      refine item_any N5 (.head _) (i := 2 * p + 1) (by omega) (by rw [refs_length]; omega) (refs_get (by omega)) ?_
      k_steps
      rename News _ _ _ _ => N5
      refine item_any N5 (.head _) (i := 2 * p + 2) (by omega) (by rw [refs_length]; omega) (refs_get (by omega)) ?_
      k_steps
      rename News _ _ _ _ => N5
      refine lt_cells N5 (bears_at hb' (by omega)) (bears_at hb' (by omega)) (by ktr_units) ?_
      k_steps
      · rename ltC _ _ = true => hlt
        have hkid : kid ltC l' p = 2 * p + 1 := by unfold kid; rw [if_neg (by intro hh; exact absurd (hlt.symm.trans hh.2) (by decide))]
        rename News _ _ _ _ => N5
        refine item_any N5 (.head _) (i := 2 * p + 1) (by omega) (by rw [refs_length]; omega) (refs_get (by omega)) ?_
        k_steps
        rename News _ _ _ _ => N6
        rename Fr _ _ _ _ => F6
        refine set_any F6 N6 hne rfl (by rw [refs_length]; omega) (by rw [refs_length]; omega) (fun h' F7 N7 => ?_)
        rw [← refs_set] at N7
        clear F6 N6
        k_steps
        rename News _ _ _ _ => N8
        rename Fr _ _ _ _ => F8
        try dsimp only
        refine WEnd.mk F8 N8 ⟨l.length - (2 * p + 1), by omega, _, 2 * p + 1, ?ta1, ?tb1, ?tc1, rfl, rfl, by omega, by rw [List.length_set]; omega, bears_set hb' (bears_at hb' (by omega)), ?eqn1, ?fr1⟩
        case fr1 =>
          rw [show ((2 * p + 1 : Nat) : Int) = 2 * (p : Int) + 1 from by omega]
          kst_all
        case eqn1 =>
          rw [← hup]
          conv => rhs; rw [up]
          rw [dif_pos (by omega), hkid]
      · rename ltC _ _ = false => hlt
        have hkid : kid ltC l' p = 2 * p + 2 := by unfold kid; rw [if_pos ⟨by omega, hlt⟩]
        rename News _ _ _ _ => N5
        refine item_any N5 (.head _) (i := 2 * p + 2) (by omega) (by rw [refs_length]; omega) (refs_get (by omega)) ?_
        k_steps
        rename News _ _ _ _ => N6
        rename Fr _ _ _ _ => F6
        refine set_any F6 N6 hne rfl (by rw [refs_length]; omega) (by rw [refs_length]; omega) (fun h' F7 N7 => ?_)
        rw [← refs_set] at N7
        clear F6 N6
        k_steps
        rename News _ _ _ _ => N8
        rename Fr _ _ _ _ => F8
        try dsimp only
        refine WEnd.mk F8 N8 ⟨l.length - (2 * p + 2), by omega, _, 2 * p + 2, ?ta2, ?tb2, ?tc2, rfl, rfl, by omega, by rw [List.length_set]; omega, bears_set hb' (bears_at hb' (by omega)), ?eqn2, ?fr2⟩
        case fr2 =>
          rw [show ((2 * p + 2 : Nat) : Int) = 2 * (p : Int) + 1 + 1 from by omega]
          kst_all
        case eqn2 =>
          rw [← hup]
          conv => rhs; rw [up]
          rw [dif_pos (by omega), hkid]
    · rename (2 * (p : Int) + 1 < _) => hc1
      rename (¬ 2 * (p : Int) + 1 + 1 < _) => hc2
      rename News _ _ _ _ => N5
      have hkid : kid ltC l' p = 2 * p + 1 := by unfold kid; rw [if_neg (by omega)]
      refine item_any N5 (.head _) (i := 2 * p + 1) (by omega) (by rw [refs_length]; omega) (refs_get (by omega)) ?_
      k_steps
      rename News _ _ _ _ => N6
      rename Fr _ _ _ _ => F6
      refine set_any F6 N6 hne rfl (by rw [refs_length]; omega) (by rw [refs_length]; omega) (fun h' F7 N7 => ?_)
      rw [← refs_set] at N7
      clear F6 N6
      k_steps
      rename News _ _ _ _ => N8
      rename Fr _ _ _ _ => F8
      try dsimp only
      refine WEnd.mk F8 N8 ⟨l.length - (2 * p + 1), by omega, _, 2 * p + 1, ?ta3, ?tb3, ?tc3, rfl, rfl, by omega, by rw [List.length_set]; omega, bears_set hb' (bears_at hb' (by omega)), ?eqn3, ?fr3⟩
      case fr3 =>
        rw [show ((2 * p + 1 : Nat) : Int) = 2 * (p : Int) + 1 from by omega]
        kst_all
      case eqn3 =>
        rw [← hup]
        conv => rhs; rw [up]
        rw [dif_pos (by omega), hkid]
    · rename (¬ 2 * (p : Int) + 1 < _) => hc1
      refine WEnd.mk F4 N3 ⟨l', p, t1, rfl, hpl, hlen', hb', ?_, by kst_all⟩
      rw [← hup, up, dif_neg (by omega)]
  · clear F2 N2
    rintro m₁ news₁ h₁ tk₁ F3 N3 ⟨l', p, t1, rfl, hpl, hlen', hb', hup, hps⟩
    obtain ⟨u1, F4⟩ := fr_ps _ F3 hps
    clear F3 hps
    dsimp only [kstB] at F4
    k_steps
    refine set_any F4 N3 hne rfl (by rw [refs_length]; omega) (by rw [refs_length]; omega) (fun h' F7 N7 => ?_)
    rw [← refs_set] at N7
    clear F4 N3
    k_steps
    k_dflt (refine' con_use (sd hp (l'.set p (l.getD j dC)) n rest j p) ?k1 ?k2 ?k3 ?k4 ?k5 ?kK ?kR ?kd ?ku ?_)
    case k1 => k_asm
    case k2 => k_asm
    case k3 => k_asm
    case k4 => k_asm
    case k5 => k_asm
    case kK => exact rfl
    case kR => exact ⟨rfl, ⟨_, _, _, _, rfl, rfl, rfl⟩, by rw [List.length_set]; omega, by rw [List.length_set]; omega, hne, bears_set hb' (bears_at hb hj)⟩
    case kd => omega
    case ku => show un + 3 + 8 * 1 < 2000; omega
    clear F7 N7
    rintro r news' h'' tk'' F8 N8 ⟨rfl, rfl⟩
    k_steps
    refine hret _ _ _ _ (by assumption) (by assumption) ⟨rfl, ?_⟩
    unfold siftup
    rw [hup, getD_set (by omega)]
theorem hr {prog : Program} {w : World} {mean : ExcName → Option Value} {mg mb : Str → Option Value} (hp : Addr) (l : List Cell) (n : Nat) (rest : List (Addr × Obj)) (x : Cell) :
   Con prog w mean mg mb 28 3 (fun news vs => news = (hp, listOf (refs l).toArray n) :: rest ∧ vs = [.ref hp, ref x] ∧ 0 < l.length ∧ l.length < 100 ∧ (∀ p ∈ rest, p.1 ≠ hp) ∧ Bears rest x ∧ ∀ c ∈ l, Bears rest c)
     (fun _ _ r news' => r = ref (l.getD 0 dC) ∧ news' = (hp, listOf (refs (siftup ltC 0 (l.set 0 x))).toArray n) :: rest) := by
  unfold Con
  intro dp un gd cn cs a ccd cl outer A₀ base h₀ L m news s vs Q E B F X N T hk hR hd hu hret
  obtain ⟨rfl, rfl, hj, hlen, hne, hx, hb⟩ := hR
  refine wpAny_call ?_
  k_dflt ktr_enter
  rename News _ _ _ _ => N'
  rename Fr _ _ _ _ => F'
  obtain ⟨u0, F1⟩ := fr_ps [(Str.ofString "heap", .ref hp), (Str.ofString "item", ref x)] F' (by kst_all)
  clear F'
  dsimp only [kstB] at F1
  k_steps
  refine item_any N' (.head _) (i := 0) rfl (by rw [refs_length]; omega) (refs_get hj) ?_
  k_steps
  rename News _ _ _ _ => N6
  rename Fr _ _ _ _ => F6
  refine set_any F6 N6 hne (i := 0) rfl (by rw [refs_length]; omega) (by rw [refs_length]; omega) (fun h' F7 N7 => ?_)
  rw [← refs_set] at N7
  clear F6 N6
  k_steps
  k_dflt (refine' con_use (su hp (l.set 0 x) n rest 0) ?k1 ?k2 ?k3 ?k4 ?k5 ?kK ?kR ?kd ?ku ?_)
  case k1 => k_asm
  case k2 => k_asm
  case k3 => k_asm
  case k4 => k_asm
  case k5 => k_asm
  case kK => exact rfl
  case kR => exact ⟨rfl, ⟨_, _, rfl, rfl⟩, by rw [List.length_set]; omega, by rw [List.length_set]; omega, hne, bears_set hb hx⟩
  case kd => omega
  case ku => show un + 3 + 8 * 2 < 2000; omega
  clear F7 N7
  rintro r news' h'' tk'' F8 N8 ⟨rfl, rfl⟩
  k_steps
  exact hret _ _ _ _ (by assumption) (by assumption) ⟨rfl, rfl⟩

theorem hpop {prog : Program} {w : World} {mean : ExcName → Option Value} {mg mb : Str → Option Value} (hp : Addr) (l : List Cell) (n : Nat) (rest : List (Addr × Obj)) :
   Con prog w mean mg mb 21 3 (fun news vs => news = (hp, listOf (refs l).toArray n) :: rest ∧ vs = [.ref hp] ∧ 0 < l.length ∧ l.length < 100 ∧ (∀ p ∈ rest, p.1 ≠ hp) ∧ ∀ c ∈ l, Bears rest c)
     (fun _ _ r news' => r = ref (l.getD 0 dC) ∧ news' = (hp, listOf (refs (popL ltC l)).toArray (n + 1)) :: rest) := by
  unfold Con
  intro dp un gd cn cs a ccd cl outer A₀ base h₀ L m news s vs Q E B F X N T hk hR hd hu hret
  obtain ⟨rfl, rfl, hj, hlen, hne, hb⟩ := hR
  refine wpAny_call ?_
  k_dflt ktr_enter
  rename News _ _ _ _ => N'
  rename Fr _ _ _ _ => F'
  obtain ⟨u0, F1⟩ := fr_ps [(Str.ofString "heap", .ref hp)] F' (by kst_all)
  clear F'
  dsimp only [kstB] at F1
  k_steps
  refine pop_any F1 N' hne (refs_last hj) (by rw [refs_length]; omega) (fun h' F2 N2 => ?_)
  clear F1 N'
  k_steps
  rename News _ _ _ _ => N3
  rename Fr _ _ _ _ => F3
  refine truthy_any N3 (.head _) (by rw [refs_length, List.length_dropLast]; omega) ?_
  rw [refs_length, List.length_dropLast]
  k_steps
  · rename (0 < l.length - 1) => h1
    refine item_any N3 (.head _) (i := 0) rfl (by rw [refs_length, List.length_dropLast]; omega) (refs_get (by rw [List.length_dropLast]; omega)) ?_
    k_steps
    rename News _ _ _ _ => N6
    rename Fr _ _ _ _ => F6
    refine set_any F6 N6 hne (i := 0) rfl (by rw [refs_length, List.length_dropLast]; omega) (by rw [refs_length, List.length_dropLast]; omega) (fun h' F7 N7 => ?_)
    rw [← refs_set] at N7
    clear F6 N6
    k_steps
    k_dflt (refine' con_use (su hp (l.dropLast.set 0 (l.getD (l.length - 1) dC)) (n + 1) rest 0) ?k1 ?k2 ?k3 ?k4 ?k5 ?kK ?kR ?kd ?ku ?_)
    case k1 => k_asm
    case k2 => k_asm
    case k3 => k_asm
    case k4 => k_asm
    case k5 => k_asm
    case kK => exact rfl
    case kR => exact ⟨rfl, ⟨_, _, rfl, rfl⟩, by rw [List.length_set, List.length_dropLast]; omega, by rw [List.length_set, List.length_dropLast]; omega, hne, bears_set (bears_drop hb) (bears_at hb (by omega))⟩
    case kd => omega
    case ku => show un + 3 + 8 * 2 < 2000; omega
    clear F7 N7
    rintro r news' h'' tk'' F8 N8 ⟨rfl, rfl⟩
    k_steps
    refine hret _ _ _ _ (by assumption) (by assumption) ⟨?_, ?_⟩
    · rw [getD_drop h1]
    · unfold popL
      rw [if_neg (by omega)]
  · rename (¬ 0 < l.length - 1) => h1
    refine hret _ _ _ _ (by assumption) (by assumption) ⟨?_, ?_⟩
    · rw [show l.length - 1 = 0 from by omega]
    · unfold popL
      rw [if_pos (by omega), drop_one (by omega)]

theorem hfy {prog : Program} {w : World} {mean : ExcName → Option Value} {mg mb : Str → Option Value} (hp : Addr) (l : List Cell) (n : Nat) (rest : List (Addr × Obj)) :
   Con prog w mean mg mb 35 3 (fun news vs => news = (hp, listOf (refs l).toArray n) :: rest ∧ vs = [.ref hp] ∧ l.length < 100 ∧ (∀ p ∈ rest, p.1 ≠ hp) ∧ (∀ p ∈ rest, NF p.2) ∧ ∀ c ∈ l, Bears rest c)
     (fun _ _ r news' => r = .none ∧ news' = (hp, listOf (refs (fyL ltC (l.length / 2) l)).toArray n) :: rest) := by
  unfold Con
  intro dp un gd cn cs a ccd cl outer A₀ base h₀ L m news s vs Q E B F X N T hk hR hd hu hret
  obtain ⟨rfl, rfl, hlen, hne, hcls, hb⟩ := hR
  refine wpAny_call ?_
  k_dflt ktr_enter
  rename News _ _ _ _ => N'
  rename Fr _ _ _ _ => F'
  obtain ⟨u0, F1⟩ := fr_ps [(Str.ofString "x", .ref hp)] F' (by kst_all)
  clear F'
  dsimp only [kstB] at F1
  k_steps
  refine len_any N' (.head _) (by rw [refs_length]; omega) ?_
  rw [refs_length]
  k_steps
  rename News _ _ _ _ => N2
  rename Fr _ _ _ _ => F2
  k_dflt (refine For_invVF F2 rfl rfl ?_)
  k_steps
  rename IsRange _ _ _ _ _ _ _ _ => R2
  rename News _ _ _ _ => N2
  rename Fr _ _ _ _ => F2
  have hhalf : ((l.length : Nat) : Int).fdiv 2 = ((l.length / 2 : Nat) : Int) := by
    rw [Int.fdiv_eq_ediv_of_nonneg _ (by omega)]; omega
  rw [hhalf] at R2
  refine call_reversed_range R2 (by omega) (by omega) ?_
  refine wpAny_pyIter_rangeiter (Heap.get?_push_size _ rfl) ?_
  refine loop_range (n := l.length / 2) rfl (Heap.get?_push_size _ rfl) (next_is_new F2) (F2.push _) (fun p hp => ⟨Heap.get?_push_of_some _ (N2 p hp).1, (N2 p hp).2⟩) ?hcls ?hL
    (fun i m₁ news₁ => ∃ l', news₁ = (hp, listOf (refs l').toArray n) :: rest ∧ l'.length = l.length ∧ (∀ c ∈ l', Bears rest c) ∧ fyL ltC (l.length / 2 - i) l' = fyL ltC (l.length / 2) l ∧ ∀ q ∈ [(Str.ofString "x", Value.ref hp)], m₁ q.1 = some q.2)
    ⟨l, rfl, rfl, hb, rfl, by kst_all⟩ ?_ ?_
  case hcls =>
    intro p hp
    rcases List.mem_cons.mp hp with rfl | hp
    · exact nf_list
    · exact hcls p hp
  case hL => exact fun e => absurd F2.ns.lt (e ▸ Nat.lt_irrefl _)
  · clear F2 N2 R2
    rintro i t m₁ news₁ h₁ tk₁ own hi ⟨l', rfl, hlen', hb', hfy, hps⟩ hcl1 hown F3 N3
    dsimp only [envOf] at F3 N3
    have hon := own_ne N3 hown
    replace N3 := news_rot N3
    obtain ⟨u1, F4⟩ := fr_ps [(Str.ofString "x", Value.ref hp), (Str.ofString "i", .int (((l.length / 2 - i - 1 : Nat) : Int)) t)] F3 (by
      refine List.forall_mem_cons.mpr ⟨?_, List.forall_mem_cons.mpr ⟨?_, List.forall_mem_nil _⟩⟩
      · exact (if_neg (show ¬ Str.ofString "x" = Str.ofString "i" from by decide)).trans (hps _ (.head _))
      · refine (if_pos rfl).trans ?_
        rw [show (((l.length / 2 : Nat) : Int) - 1 + (i : Int) * -1) = ((l.length / 2 - i - 1 : Nat) : Int) from by omega])
    clear F3 hps
    dsimp only [kstB] at F4
    k_steps
    k_dflt (refine' con_use (su hp l' n (rest ++ own) (l.length / 2 - i - 1)) ?k1 ?k2 ?k3 ?k4 ?k5 ?kK ?kR ?kd ?ku ?_)
    case k1 => k_asm
    case k2 => k_asm
    case k3 => k_asm
    case k4 => k_asm
    case k5 => k_asm
    case kK => exact rfl
    case kR => exact ⟨rfl, ⟨_, _, rfl, rfl⟩, by omega, by omega, fun p hp => (List.mem_append.mp hp).elim (hne p) (hon p), fun c hc => bears_app (hb' c hc)⟩
    case kd => omega
    case ku => show un + 3 + 8 * 2 < 2000; omega
    clear F4 N3
    rintro r news' h'' tk'' F8 N8 ⟨rfl, rfl⟩
    k_steps
    refine FEnd.mk ((hp, listOf (refs (siftup ltC (l.length / 2 - i - 1) l')).toArray n) :: rest) F8 N8 (fun p hp => .tail _ (List.mem_append.mpr (.inr hp))) ?_ ?_ ⟨_, rfl, ?_, ?_, ?_, by kst_all⟩
    · intro p hp
      rcases List.mem_cons.mp hp with rfl | hp
      · exact .head _
      · exact .tail _ (List.mem_append.mpr (.inl hp))
    · intro q hq
      rcases List.mem_cons.mp hq with rfl | hq
      · exact nf_list
      · exact hcls q hq
    · rw [siftup_length, hlen']
    · exact siftup_bears (by omega) hb'
    · rw [← hfy, show l.length / 2 - i = (l.length / 2 - i - 1) + 1 from by omega]
      rfl
  · clear F2 N2 R2
    rintro h₁ tk₁ m₁ news₁ F3 N3 hcl1 ⟨l', rfl, hlen', hb', hfy, hps⟩
    rw [Nat.sub_self] at hfy
    k_steps
    refine hret _ _ _ _ (by assumption) (by assumption) ⟨rfl, ?_⟩
    rw [← hfy]
    rfl
theorem sdM {prog : Program} {w : World} {mean : ExcName → Option Value} {mg mb : Str → Option Value} (hp : Addr) (l : List Cell) (n : Nat) (rest : List (Addr × Obj)) (i j : Nat) :
   Con prog w mean mg mb 77 1 (PreD hp l n rest i j) (fun _ _ r news' => r = .none ∧ news' = (hp, listOf (refs (dn gtC (l.getD j dC) i j l)).toArray n) :: rest) := by
  unfold Con
  intro dp un gd cn cs a ccd cl outer A₀ base h₀ L m news s vs Q E B F X N T hk hR hd hu hret
  obtain ⟨rfl, ⟨_, t, _, u, rfl, rfl, rfl⟩, hj, hlen, hne, hb⟩ := hR
  refine wpAny_call ?_
  k_dflt ktr_enter
  rename News _ _ _ _ => N'
  rename Fr _ _ _ _ => F'
  obtain ⟨u0, F1⟩ := fr_ps [(Str.ofString "heap", .ref hp), (Str.ofString "startpos", .int i t), (Str.ofString "pos", .int j u)] F' (by kst_all)
  clear F'
  dsimp only [kstB] at F1
  k_steps
  refine item_any N' (.head _) rfl (by rw [refs_length]; omega) (refs_get hj) ?_
  k_steps
  rename News _ _ _ _ => N2
  rename Fr _ _ _ _ => F2
  refine while_rule (n₀ := j)
    (fun k m₁ news₁ => ∃ l' tp, news₁ = (hp, listOf (refs l').toArray n) :: rest ∧ k < l'.length ∧ l'.length < 100 ∧ (∀ c ∈ l', Bears rest c) ∧ dn gtC (l.getD j dC) i k l' = dn gtC (l.getD j dC) i j l ∧
      ∀ p ∈ [(Str.ofString "heap", Value.ref hp), (Str.ofString "startpos", .int i t), (Str.ofString "pos", .int k tp), (Str.ofString "newitem", ref (l.getD j dC))], m₁ p.1 = some p.2)
    (fun m₁ news₁ => ∃ l' k tp, news₁ = (hp, listOf (refs l').toArray n) :: rest ∧ k < l'.length ∧ l'.length < 100 ∧ l'.set k (l.getD j dC) = dn gtC (l.getD j dC) i j l ∧
      ∀ p ∈ [(Str.ofString "heap", Value.ref hp), (Str.ofString "startpos", .int i t), (Str.ofString "pos", .int k tp), (Str.ofString "newitem", ref (l.getD j dC))], m₁ p.1 = some p.2)
    F2 N2 ⟨l, u, rfl, hj, hlen, hb, rfl, by kst_all⟩ ?_ ?_
  · clear F2 N2
    rintro k m₁ news₁ h₁ tk₁ F3 N3 ⟨l', tp, rfl, hkl, hlen', hb', hdn, hps⟩
    obtain ⟨u1, F4⟩ := fr_ps _ F3 hps
    clear F3 hps
    dsimp only [kstB] at F4
    k_steps
    · rename News _ _ _ _ => N5
      rename ((i : Int) < _) => hik
      have hpk : (k - 1) / 2 < l'.length := by omega
      refine item_any N5 (.head _) (half_up (by omega)) (by rw [refs_length]; omega) (refs_get hpk) ?_
      k_steps
      rename News _ _ _ _ => N6
      refine lt_cells N6 (bears_at hb' hpk) (bears_at hb hj) (by ktr_units) ?_
      k_steps
      · rename ltC _ _ = true => hlt
        rename Fr _ _ _ _ => F6
        refine set_any F6 N6 hne rfl (by rw [refs_length]; exact hkl) (by rw [refs_length]; omega) (fun h' F7 N7 => ?_)
        rw [← refs_set] at N7
        clear F6 N6
        k_steps
        rename News _ _ _ _ => N8
        rename Fr _ _ _ _ => F8
        dsimp only
        refine WEnd.mk F8 N8 ⟨(k - 1) / 2, by omega, _, ?tok, rfl, by rw [List.length_set]; omega, by rw [List.length_set]; omega, bears_set hb' (bears_at hb' hpk), ?eqn, ?fr⟩
        case fr =>
          rw [← half_up (by omega : 0 < k)]
          kst_all
        case eqn =>
          rw [← hdn]
          conv => rhs; rw [dn]
          rw [dif_pos (by omega), if_pos (show gtC _ _ = true from hlt)]
      · rename ltC _ _ = false => hlt
        rename Fr _ _ _ _ => F6
        dsimp only
        refine WEnd.mk F6 N6 ⟨l', k, tp, rfl, hkl, hlen', ?_, by kst_all⟩
        rw [← hdn, dn, dif_pos (by omega), if_neg (by rw [show gtC _ _ = false from hlt]; exact Bool.false_ne_true)]
    · rename (¬ (i : Int) < _) => hik
      refine WEnd.mk F4 N3 ⟨l', k, tp, rfl, hkl, hlen', ?_, by kst_all⟩
      rw [← hdn, dn, dif_neg (by omega)]
  · clear F2 N2
    rintro m₁ news₁ h₁ tk₁ F3 N3 ⟨l', k, tp, rfl, hkl, hlen', hset, hps⟩
    obtain ⟨u1, F4⟩ := fr_ps _ F3 hps
    clear F3 hps
    dsimp only [kstB] at F4
    k_steps
    refine set_any F4 N3 hne rfl (by rw [refs_length]; exact hkl) (by rw [refs_length]; omega) (fun h' F7 N7 => ?_)
    rw [← refs_set, hset] at N7
    clear F4 N3
    k_steps
    exact hret _ _ _ _ (by assumption) (by assumption) ⟨rfl, rfl⟩

theorem suM {prog : Program} {w : World} {mean : ExcName → Option Value} {mg mb : Str → Option Value} (hp : Addr) (l : List Cell) (n : Nat) (rest : List (Addr × Obj)) (j : Nat) :
   Con prog w mean mg mb 84 2 (PreU hp l n rest j) (fun _ _ r news' => r = .none ∧ news' = (hp, listOf (refs (siftup gtC j l)).toArray n) :: rest) := by
  unfold Con
  intro dp un gd cn cs a ccd cl outer A₀ base h₀ L m news s vs Q E B F X N T hk hR hd hu hret
  obtain ⟨rfl, ⟨_, u, rfl, rfl⟩, hj, hlen, hne, hb⟩ := hR
  refine wpAny_call ?_
  k_dflt ktr_enter
  rename News _ _ _ _ => N'
  rename Fr _ _ _ _ => F'
  obtain ⟨u0, F1⟩ := fr_ps [(Str.ofString "heap", .ref hp), (Str.ofString "pos", .int j u)] F' (by kst_all)
  clear F'
  dsimp only [kstB] at F1
  k_steps
  refine len_any N' (.head _) (by rw [refs_length]; omega) ?_
  rw [refs_length]
  k_steps
  rename News _ _ _ _ => N2
  refine item_any N2 (.head _) rfl (by rw [refs_length]; omega) (refs_get hj) ?_
  k_steps
  rename News _ _ _ _ => N2
  rename Fr _ _ _ _ => F2
  refine while_rule (n₀ := l.length - j)
    (fun k m₁ news₁ => ∃ l' p t1 t2 t3, k = l.length - p ∧ news₁ = (hp, listOf (refs l').toArray n) :: rest ∧ p < l.length ∧ l'.length = l.length ∧ (∀ c ∈ l', Bears rest c) ∧ up gtC p l' = up gtC j l ∧
      ∀ q ∈ [(Str.ofString "heap", Value.ref hp), (Str.ofString "startpos", .int j u), (Str.ofString "pos", .int p t1), (Str.ofString "childpos", .int (2 * p + 1) t2), (Str.ofString "endpos", .int l.length t3), (Str.ofString "newitem", ref (l.getD j dC))], m₁ q.1 = some q.2)
    (fun m₁ news₁ => ∃ l' p t1, news₁ = (hp, listOf (refs l').toArray n) :: rest ∧ p < l.length ∧ l'.length = l.length ∧ (∀ c ∈ l', Bears rest c) ∧ up gtC j l = (p, l') ∧
      ∀ q ∈ [(Str.ofString "heap", Value.ref hp), (Str.ofString "startpos", .int j u), (Str.ofString "pos", .int p t1), (Str.ofString "newitem", ref (l.getD j dC))], m₁ q.1 = some q.2)
    F2 N2 ⟨l, j, _, _, _, rfl, rfl, hj, rfl, hb, rfl, by kst_all⟩ ?_ ?_
  · clear F2 N2
    rintro k m₁ news₁ h₁ tk₁ F3 N3 ⟨l', p, t1, t2, t3, rfl, rfl, hpl, hlen', hb', hup, hps⟩
    obtain ⟨u1, F4⟩ := fr_ps _ F3 hps
    clear F3 hps
    dsimp only [kstB] at F4
    k_steps
    · rename (2 * (p : Int) + 1 < _) => hc1
      rename (2 * (p : Int) + 1 + 1 < _) => hc2
      rename News _ _ _ _ => N5
      refine item_any N5 (.head _) (i := 2 * p + 2) (by omega) (by rw [refs_length]; omega) (refs_get (by omega)) ?_
      k_steps
      rename News _ _ _ _ => N5
      refine item_any N5 (.head _) (i := 2 * p + 1) (by omega) (by rw [refs_length]; omega) (refs_get (by omega)) ?_
      k_steps
      rename News _ _ _ _ => N5
      refine lt_cells N5 (bears_at hb' (by omega)) (bears_at hb' (by omega)) (by ktr_units) ?_
      k_steps
      · rename ltC _ _ = true => hlt
        have hkid : kid gtC l' p = 2 * p + 1 := by unfold kid; rw [if_neg (by intro hh; exact absurd (hlt.symm.trans hh.2) (by decide))]
        rename News _ _ _ _ => N5
        refine item_any N5 (.head _) (i := 2 * p + 1) (by omega) (by rw [refs_length]; omega) (refs_get (by omega)) ?_
        k_steps
        rename News _ _ _ _ => N6
        rename Fr _ _ _ _ => F6
        refine set_any F6 N6 hne rfl (by rw [refs_length]; omega) (by rw [refs_length]; omega) (fun h' F7 N7 => ?_)
        rw [← refs_set] at N7
        clear F6 N6
        k_steps
        rename News _ _ _ _ => N8
        rename Fr _ _ _ _ => F8
        try dsimp only
        refine WEnd.mk F8 N8 ⟨l.length - (2 * p + 1), by omega, _, 2 * p + 1, ?ta4, ?tb4, ?tc4, rfl, rfl, by omega, by rw [List.length_set]; omega, bears_set hb' (bears_at hb' (by omega)), ?eqn4, ?fr4⟩
        case fr4 =>
          rw [show ((2 * p + 1 : Nat) : Int) = 2 * (p : Int) + 1 from by omega]
          kst_all
        case eqn4 =>
          rw [← hup]
          conv => rhs; rw [up]
          rw [dif_pos (by omega), hkid]
      · rename ltC _ _ = false => hlt
        have hkid : kid gtC l' p = 2 * p + 2 := by unfold kid; rw [if_pos ⟨by omega, hlt⟩]
        rename News _ _ _ _ => N5
        refine item_any N5 (.head _) (i := 2 * p + 2) (by omega) (by rw [refs_length]; omega) (refs_get (by omega)) ?_
        k_steps
        rename News _ _ _ _ => N6
        rename Fr _ _ _ _ => F6
        refine set_any F6 N6 hne rfl (by rw [refs_length]; omega) (by rw [refs_length]; omega) (fun h' F7 N7 => ?_)
        rw [← refs_set] at N7
        clear F6 N6
        k_steps
        rename News _ _ _ _ => N8
        rename Fr _ _ _ _ => F8
        try dsimp only
        refine WEnd.mk F8 N8 ⟨l.length - (2 * p + 2), by omega, _, 2 * p + 2, ?ta5, ?tb5, ?tc5, rfl, rfl, by omega, by rw [List.length_set]; omega, bears_set hb' (bears_at hb' (by omega)), ?eqn5, ?fr5⟩
        case fr5 =>
          rw [show ((2 * p + 2 : Nat) : Int) = 2 * (p : Int) + 1 + 1 from by omega]
          kst_all
        case eqn5 =>
          rw [← hup]
          conv => rhs; rw [up]
          rw [dif_pos (by omega), hkid]
    · rename (2 * (p : Int) + 1 < _) => hc1
      rename (¬ 2 * (p : Int) + 1 + 1 < _) => hc2
      rename News _ _ _ _ => N5
      have hkid : kid gtC l' p = 2 * p + 1 := by unfold kid; rw [if_neg (by omega)]
      refine item_any N5 (.head _) (i := 2 * p + 1) (by omega) (by rw [refs_length]; omega) (refs_get (by omega)) ?_
      k_steps
      rename News _ _ _ _ => N6
      rename Fr _ _ _ _ => F6
      refine set_any F6 N6 hne rfl (by rw [refs_length]; omega) (by rw [refs_length]; omega) (fun h' F7 N7 => ?_)
      rw [← refs_set] at N7
      clear F6 N6
      k_steps
      rename News _ _ _ _ => N8
      rename Fr _ _ _ _ => F8
      try dsimp only
      refine WEnd.mk F8 N8 ⟨l.length - (2 * p + 1), by omega, _, 2 * p + 1, ?ta6, ?tb6, ?tc6, rfl, rfl, by omega, by rw [List.length_set]; omega, bears_set hb' (bears_at hb' (by omega)), ?eqn6, ?fr6⟩
      case fr6 =>
        rw [show ((2 * p + 1 : Nat) : Int) = 2 * (p : Int) + 1 from by omega]
        kst_all
      case eqn6 =>
        rw [← hup]
        conv => rhs; rw [up]
        rw [dif_pos (by omega), hkid]
    · rename (¬ 2 * (p : Int) + 1 < _) => hc1
      refine WEnd.mk F4 N3 ⟨l', p, t1, rfl, hpl, hlen', hb', ?_, by kst_all⟩
      rw [← hup, up, dif_neg (by omega)]
  · clear F2 N2
    rintro m₁ news₁ h₁ tk₁ F3 N3 ⟨l', p, t1, rfl, hpl, hlen', hb', hup, hps⟩
    obtain ⟨u1, F4⟩ := fr_ps _ F3 hps
    clear F3 hps
    dsimp only [kstB] at F4
    k_steps
    refine set_any F4 N3 hne rfl (by rw [refs_length]; omega) (by rw [refs_length]; omega) (fun h' F7 N7 => ?_)
    rw [← refs_set] at N7
    clear F4 N3
    k_steps
    k_dflt (refine' con_use (sdM hp (l'.set p (l.getD j dC)) n rest j p) ?k1 ?k2 ?k3 ?k4 ?k5 ?kK ?kR ?kd ?ku ?_)
    case k1 => k_asm
    case k2 => k_asm
    case k3 => k_asm
    case k4 => k_asm
    case k5 => k_asm
    case kK => exact rfl
    case kR => exact ⟨rfl, ⟨_, _, _, _, rfl, rfl, rfl⟩, by rw [List.length_set]; omega, by rw [List.length_set]; omega, hne, bears_set hb' (bears_at hb hj)⟩
    case kd => omega
    case ku => show un + 3 + 8 * 1 < 2000; omega
    clear F7 N7
    rintro r news' h'' tk'' F8 N8 ⟨rfl, rfl⟩
    k_steps
    refine hret _ _ _ _ (by assumption) (by assumption) ⟨rfl, ?_⟩
    unfold siftup
    rw [hup, getD_set (by omega)]
theorem hrM {prog : Program} {w : World} {mean : ExcName → Option Value} {mg mb : Str → Option Value} (hp : Addr) (l : List Cell) (n : Nat) (rest : List (Addr × Obj)) (x : Cell) :
   Con prog w mean mg mb 49 3 (fun news vs => news = (hp, listOf (refs l).toArray n) :: rest ∧ vs = [.ref hp, ref x] ∧ 0 < l.length ∧ l.length < 100 ∧ (∀ p ∈ rest, p.1 ≠ hp) ∧ Bears rest x ∧ ∀ c ∈ l, Bears rest c)
     (fun _ _ r news' => r = ref (l.getD 0 dC) ∧ news' = (hp, listOf (refs (siftup gtC 0 (l.set 0 x))).toArray n) :: rest) := by
  unfold Con
  intro dp un gd cn cs a ccd cl outer A₀ base h₀ L m news s vs Q E B F X N T hk hR hd hu hret
  obtain ⟨rfl, rfl, hj, hlen, hne, hx, hb⟩ := hR
  refine wpAny_call ?_
  k_dflt ktr_enter
  rename News _ _ _ _ => N'
  rename Fr _ _ _ _ => F'
  obtain ⟨u0, F1⟩ := fr_ps [(Str.ofString "heap", .ref hp), (Str.ofString "item", ref x)] F' (by kst_all)
  clear F'
  dsimp only [kstB] at F1
  k_steps
  refine item_any N' (.head _) (i := 0) rfl (by rw [refs_length]; omega) (refs_get hj) ?_
  k_steps
  rename News _ _ _ _ => N6
  rename Fr _ _ _ _ => F6
  refine set_any F6 N6 hne (i := 0) rfl (by rw [refs_length]; omega) (by rw [refs_length]; omega) (fun h' F7 N7 => ?_)
  rw [← refs_set] at N7
  clear F6 N6
  k_steps
  k_dflt (refine' con_use (suM hp (l.set 0 x) n rest 0) ?k1 ?k2 ?k3 ?k4 ?k5 ?kK ?kR ?kd ?ku ?_)
  case k1 => k_asm
  case k2 => k_asm
  case k3 => k_asm
  case k4 => k_asm
  case k5 => k_asm
  case kK => exact rfl
  case kR => exact ⟨rfl, ⟨_, _, rfl, rfl⟩, by rw [List.length_set]; omega, by rw [List.length_set]; omega, hne, bears_set hb hx⟩
  case kd => omega
  case ku => show un + 3 + 8 * 2 < 2000; omega
  clear F7 N7
  rintro r news' h'' tk'' F8 N8 ⟨rfl, rfl⟩
  k_steps
  exact hret _ _ _ _ (by assumption) (by assumption) ⟨rfl, rfl⟩

theorem hpopM {prog : Program} {w : World} {mean : ExcName → Option Value} {mg mb : Str → Option Value} (hp : Addr) (l : List Cell) (n : Nat) (rest : List (Addr × Obj)) :
   Con prog w mean mg mb 42 3 (fun news vs => news = (hp, listOf (refs l).toArray n) :: rest ∧ vs = [.ref hp] ∧ 0 < l.length ∧ l.length < 100 ∧ (∀ p ∈ rest, p.1 ≠ hp) ∧ ∀ c ∈ l, Bears rest c)
     (fun _ _ r news' => r = ref (l.getD 0 dC) ∧ news' = (hp, listOf (refs (popL gtC l)).toArray (n + 1)) :: rest) := by
  unfold Con
  intro dp un gd cn cs a ccd cl outer A₀ base h₀ L m news s vs Q E B F X N T hk hR hd hu hret
  obtain ⟨rfl, rfl, hj, hlen, hne, hb⟩ := hR
  refine wpAny_call ?_
  k_dflt ktr_enter
  rename News _ _ _ _ => N'
  rename Fr _ _ _ _ => F'
  obtain ⟨u0, F1⟩ := fr_ps [(Str.ofString "heap", .ref hp)] F' (by kst_all)
  clear F'
  dsimp only [kstB] at F1
  k_steps
  refine pop_any F1 N' hne (refs_last hj) (by rw [refs_length]; omega) (fun h' F2 N2 => ?_)
  clear F1 N'
  k_steps
  rename News _ _ _ _ => N3
  rename Fr _ _ _ _ => F3
  refine truthy_any N3 (.head _) (by rw [refs_length, List.length_dropLast]; omega) ?_
  rw [refs_length, List.length_dropLast]
  k_steps
  · rename (0 < l.length - 1) => h1
    refine item_any N3 (.head _) (i := 0) rfl (by rw [refs_length, List.length_dropLast]; omega) (refs_get (by rw [List.length_dropLast]; omega)) ?_
    k_steps
    rename News _ _ _ _ => N6
    rename Fr _ _ _ _ => F6
    refine set_any F6 N6 hne (i := 0) rfl (by rw [refs_length, List.length_dropLast]; omega) (by rw [refs_length, List.length_dropLast]; omega) (fun h' F7 N7 => ?_)
    rw [← refs_set] at N7
    clear F6 N6
    k_steps
    k_dflt (refine' con_use (suM hp (l.dropLast.set 0 (l.getD (l.length - 1) dC)) (n + 1) rest 0) ?k1 ?k2 ?k3 ?k4 ?k5 ?kK ?kR ?kd ?ku ?_)
    case k1 => k_asm
    case k2 => k_asm
    case k3 => k_asm
    case k4 => k_asm
    case k5 => k_asm
    case kK => exact rfl
    case kR => exact ⟨rfl, ⟨_, _, rfl, rfl⟩, by rw [List.length_set, List.length_dropLast]; omega, by rw [List.length_set, List.length_dropLast]; omega, hne, bears_set (bears_drop hb) (bears_at hb (by omega))⟩
    case kd => omega
    case ku => show un + 3 + 8 * 2 < 2000; omega
    clear F7 N7
    rintro r news' h'' tk'' F8 N8 ⟨rfl, rfl⟩
    k_steps
    refine hret _ _ _ _ (by assumption) (by assumption) ⟨?_, ?_⟩
    · rw [getD_drop h1]
    · unfold popL
      rw [if_neg (by omega)]
  · rename (¬ 0 < l.length - 1) => h1
    refine hret _ _ _ _ (by assumption) (by assumption) ⟨?_, ?_⟩
    · rw [show l.length - 1 = 0 from by omega]
    · unfold popL
      rw [if_pos (by omega), drop_one (by omega)]

theorem hfyM {prog : Program} {w : World} {mean : ExcName → Option Value} {mg mb : Str → Option Value} (hp : Addr) (l : List Cell) (n : Nat) (rest : List (Addr × Obj)) :
   Con prog w mean mg mb 56 3 (fun news vs => news = (hp, listOf (refs l).toArray n) :: rest ∧ vs = [.ref hp] ∧ l.length < 100 ∧ (∀ p ∈ rest, p.1 ≠ hp) ∧ (∀ p ∈ rest, NF p.2) ∧ ∀ c ∈ l, Bears rest c)
     (fun _ _ r news' => r = .none ∧ news' = (hp, listOf (refs (fyL gtC (l.length / 2) l)).toArray n) :: rest) := by
  unfold Con
  intro dp un gd cn cs a ccd cl outer A₀ base h₀ L m news s vs Q E B F X N T hk hR hd hu hret
  obtain ⟨rfl, rfl, hlen, hne, hcls, hb⟩ := hR
  refine wpAny_call ?_
  k_dflt ktr_enter
  rename News _ _ _ _ => N'
  rename Fr _ _ _ _ => F'
  obtain ⟨u0, F1⟩ := fr_ps [(Str.ofString "x", .ref hp)] F' (by kst_all)
  clear F'
  dsimp only [kstB] at F1
  k_steps
  refine len_any N' (.head _) (by rw [refs_length]; omega) ?_
  rw [refs_length]
  k_steps
  rename News _ _ _ _ => N2
  rename Fr _ _ _ _ => F2
  k_dflt (refine For_invVF F2 rfl rfl ?_)
  k_steps
  rename IsRange _ _ _ _ _ _ _ _ => R2
  rename News _ _ _ _ => N2
  rename Fr _ _ _ _ => F2
  have hhalf : ((l.length : Nat) : Int).fdiv 2 = ((l.length / 2 : Nat) : Int) := by
    rw [Int.fdiv_eq_ediv_of_nonneg _ (by omega)]; omega
  rw [hhalf] at R2
  refine call_reversed_range R2 (by omega) (by omega) ?_
  refine wpAny_pyIter_rangeiter (Heap.get?_push_size _ rfl) ?_
  refine loop_range (n := l.length / 2) rfl (Heap.get?_push_size _ rfl) (next_is_new F2) (F2.push _) (fun p hp => ⟨Heap.get?_push_of_some _ (N2 p hp).1, (N2 p hp).2⟩) ?hcls ?hL
    (fun i m₁ news₁ => ∃ l', news₁ = (hp, listOf (refs l').toArray n) :: rest ∧ l'.length = l.length ∧ (∀ c ∈ l', Bears rest c) ∧ fyL gtC (l.length / 2 - i) l' = fyL gtC (l.length / 2) l ∧ ∀ q ∈ [(Str.ofString "x", Value.ref hp)], m₁ q.1 = some q.2)
    ⟨l, rfl, rfl, hb, rfl, by kst_all⟩ ?_ ?_
  case hcls =>
    intro p hp
    rcases List.mem_cons.mp hp with rfl | hp
    · exact nf_list
    · exact hcls p hp
  case hL => exact fun e => absurd F2.ns.lt (e ▸ Nat.lt_irrefl _)
  · clear F2 N2 R2
    rintro i t m₁ news₁ h₁ tk₁ own hi ⟨l', rfl, hlen', hb', hfy, hps⟩ hcl1 hown F3 N3
    dsimp only [envOf] at F3 N3
    have hon := own_ne N3 hown
    replace N3 := news_rot N3
    obtain ⟨u1, F4⟩ := fr_ps [(Str.ofString "x", Value.ref hp), (Str.ofString "i", .int (((l.length / 2 - i - 1 : Nat) : Int)) t)] F3 (by
      refine List.forall_mem_cons.mpr ⟨?_, List.forall_mem_cons.mpr ⟨?_, List.forall_mem_nil _⟩⟩
      · exact (if_neg (show ¬ Str.ofString "x" = Str.ofString "i" from by decide)).trans (hps _ (.head _))
      · refine (if_pos rfl).trans ?_
        rw [show (((l.length / 2 : Nat) : Int) - 1 + (i : Int) * -1) = ((l.length / 2 - i - 1 : Nat) : Int) from by omega])
    clear F3 hps
    dsimp only [kstB] at F4
    k_steps
    k_dflt (refine' con_use (suM hp l' n (rest ++ own) (l.length / 2 - i - 1)) ?k1 ?k2 ?k3 ?k4 ?k5 ?kK ?kR ?kd ?ku ?_)
    case k1 => k_asm
    case k2 => k_asm
    case k3 => k_asm
    case k4 => k_asm
    case k5 => k_asm
    case kK => exact rfl
    case kR => exact ⟨rfl, ⟨_, _, rfl, rfl⟩, by omega, by omega, fun p hp => (List.mem_append.mp hp).elim (hne p) (hon p), fun c hc => bears_app (hb' c hc)⟩
    case kd => omega
    case ku => show un + 3 + 8 * 2 < 2000; omega
    clear F4 N3
    rintro r news' h'' tk'' F8 N8 ⟨rfl, rfl⟩
    k_steps
    refine FEnd.mk ((hp, listOf (refs (siftup gtC (l.length / 2 - i - 1) l')).toArray n) :: rest) F8 N8 (fun p hp => .tail _ (List.mem_append.mpr (.inr hp))) ?_ ?_ ⟨_, rfl, ?_, ?_, ?_, by kst_all⟩
    · intro p hp
      rcases List.mem_cons.mp hp with rfl | hp
      · exact .head _
      · exact .tail _ (List.mem_append.mpr (.inl hp))
    · intro q hq
      rcases List.mem_cons.mp hq with rfl | hq
      · exact nf_list
      · exact hcls q hq
    · rw [siftup_length, hlen']
    · exact siftup_bears (by omega) hb'
    · rw [← hfy, show l.length / 2 - i = (l.length / 2 - i - 1) + 1 from by omega]
      rfl
  · clear F2 N2 R2
    rintro h₁ tk₁ m₁ news₁ F3 N3 hcl1 ⟨l', rfl, hlen', hb', hfy, hps⟩
    rw [Nat.sub_self] at hfy
    k_steps
    refine hret _ _ _ _ (by assumption) (by assumption) ⟨rfl, ?_⟩
    rw [← hfy]
    rfl

end Mine

namespace Mine

section
open PySem.Calls
variable {prog : Program} {w : World} {A₀ A : Around} {s : Shared} {base h₀ : Heap} {L a : Addr} {m : Str → Option Value} {env : Env} {news : List (Addr × Obj)} {K : Frag} {p : Program} {loose : List Str} {mean : ExcName → Option Value} {mg mb : Str → Option Value}
    {R : Result → Shared → Prop} {name qual : Str} {params : Arguments} {body : List Stmt} {scope : Scope} {dV kV doc pm cdv ct oc : Value} {an od : Option Addr} {osl : Array (Option Value)} {f : Addr} {args : Args} {binds : List (Str × Value)}

/-- back at home: the caller's frame stands (but for slots), and nothing new lies on what stood -/
theorem home {fs : List Addr} {g : Heap} {v : Value} {s' : Shared} (hL₀ : h₀.get? L = none) (hfs : ∀ b ∈ fs, b = L) (FG : Fr h₀ L g m) (hl : LeaveS0 fs h₀ L m g R v s') : R (.ok (.ret v)) s' := by
  obtain ⟨g', L', m', news', turn, Fr', Nw', go⟩ := hl
  have low : ∀ b o, h₀.get? b = some o → s'.heap.get? b = some o := fun b o e =>
    Fr'.keep b o (turn.other b o (FG.keep b o e) fun hb => by rw [hfs b hb, hL₀] at e; cases e)
  have mine : s'.heap.Ns L m := by
    obtain ⟨o, es, n, ho, hd, hk, hf⟩ := FG.ns
    obtain ⟨sl, hs⟩ := turn.up ho
    exact ⟨_, es, n, Fr'.keep _ _ hs, hd, hk, hf⟩
  have apart : ∀ b o, g.get? b = some o → ∀ q ∈ news', q.1 ≠ b := by
    intro b o e q hq eq
    obtain ⟨sl, hs⟩ := turn.up e
    have h1 := (Nw' q hq).2.2
    rw [eq, hs] at h1
    cases h1
  refine go ⟨mine, low, FG.above⟩ fun q hq => ⟨(Nw' q hq).1, ?_, ?_⟩
  · obtain ⟨o, es, n, ho, _⟩ := FG.ns
    exact apart L o ho q hq
  · cases e : h₀.get? q.1 with
    | none => rfl
    | some o => exact absurd rfl (apart q.1 o (FG.keep _ _ e) q hq)

/-- a def with a try of its own, called from any function's frame (one with cells too) -/
theorem call_try (B : Below A₀ base [] h₀) (F : Fr h₀ L s.heap m) (X₀ : K.In h₀) (N : News h₀ L s.heap news) (T : Top p loose mean mg mb h₀) (hA : A.frames = some [env]) (hf : env.frame = some L) (hke : env.scope.kind = .function)
    (ho : K.lookup f = some ⟨oc, od, .func (fnOf name qual params body scope dV kV doc pm an cdv ct), osl⟩) (hcd : codeIn K cdv qual = true) (hroom : A.depth < recursionLimit)
    (hbind : BindsTo s (fnOf name qual params body scope dV kV doc pm an cdv ct) args binds) (hloc : ∀ y ∈ binds, scope.names.lookup y.1 = some .local)
    (inside : ∀ g L' h₁, Fr h₀ L g m → Fr g L' h₁ (fun y => binds.reverse.lookup y) → News g L' h₁ news → Below A base [env] g → K.In g → Top p loose mean mg mb g → KtsDicts ([env].filterMap (·.frame)) g →
      wpAny (model prog w) (A.deeper (envOf qual scope L' f cdv)) (execs body (envOf qual scope L' f cdv))
        (fun fl s' => LeaveS0 ([env].filterMap (·.frame)) h₀ L m g R (match fl with | .ret v => v | _ => .none) s')
        (fun e s' => wpAny (model prog w) (A.deeper (envOf qual scope L' f cdv)) (leaving (envOf qual scope L' f cdv) e) (fun _ s'' => R (.error e) s'') (fun e' s'' => R (.error e') s'') s')
        { s with heap := h₁, toks := s.toks + binds.length })
    (hco : scope.isCoroutine = false) (hgen : scope.isGenerator = false) (hk : scope.kind = .function)
    (hcell : ∀ x ∈ scope.names, x.2 ≠ .cell) : codeAny (model prog w) A (.call (.ref f) args) R s := by
  have fs1 : [env].filterMap (·.frame) = [L] := by simp [hf]
  obtain ⟨FG, BG, st, _⟩ := groundX (R := R) B F N hA hf hke
  have dicts : KtsDicts ([env].filterMap (·.frame)) (hideAll s.heap (news.map (·.1))) := by
    obtain ⟨o, es, n, hg, hd, _⟩ := FG.ns
    intro b hb
    rw [fs1, List.mem_singleton] at hb
    exact ⟨o, es, n, by rw [hb]; exact hg, hd⟩
  refine codeAny_call_def (fd := fnOf name qual params body scope dV kV doc pm an cdv ct) (body := body) (binds := binds) hroom ((X₀.keeps F.keep) _ _ ho) rfl (T.nolimit.keeps F.keep) (codeRec_of (X₀.keeps F.keep) hcd) rfl hbind hcell hloc (fun h₁ hns up₁ => ?_) hco hgen hk
  have F₁ : Fr (hideAll s.heap (news.map (·.1))) s.heap.objs.size h₁ (fun y => binds.reverse.lookup y) := ⟨hns, fun b o e => up₁ b o (of_hideAll _ e), Nat.le_of_eq (hideAll_size _ _)⟩
  have N₁ : News (hideAll s.heap (news.map (·.1))) s.heap.objs.size h₁ news := fun q hq => ⟨up₁ _ _ (N q hq).1, Nat.ne_of_lt (Heap.lt_size (N q hq).1), hideAll_none _ (List.mem_map_of_mem hq)⟩
  exact wpAny_mono (inside _ _ _ FG F₁ N₁ BG (X₀.keeps st) (T.keeps st) dicts) (fun _ _ hl => home (kts_self F) (by rw [fs1]; simp) FG hl) fun _ _ y => y
end
theorem pop_empty {prog : Program} {w : World} {A : Around} {E : Value → Shared → Prop} {s : Shared} {Q : Value → Shared → Prop} {D : Addr} {n : Nat} (hA : A.handled = none) (ho : s.heap.get? D = some (listOf #[] n))
    (hE : ∀ h' tk e, Heap.NewExc s.heap h' e "IndexError" → E (.ref e) { s with heap := h', toks := tk }) : wpAny (model prog w) A (call (.builtin "list.pop") [.ref D]) Q E s := by
  refine wpAny_call_entry F.slot_list_pop ⟨_, ho, rfl⟩ F.entry_list_pop ?_ (F.args_list_pop_1 _)
  unfold Builtin.«list.pop»
  refine wpAny_bind (wpAny_of_eq (a := (Value.ref D, [])) rfl ?_)
  dsimp only
  refine wpAny_bind (wpAny_pure ?_)
  rw [if_neg (by decide)]
  refine wpAny_bind (wpAny_listItems ho rfl ?_)
  rw [if_pos (show (#[] : Array Value).isEmpty = true from rfl)]
  first
    | exact wpAny_bind (wpAny_rule (by exact_raiseError plainExc_IndexError hA hE))
    | exact wpAny_bind (wpAny_rule (wpAny_bind (by exact_raiseError plainExc_IndexError hA hE)))
    | exact wpAny_bind (wpAny_bind (wpAny_rule (by exact_raiseError plainExc_IndexError hA hE)))
    | exact wpAny_rule (by exact_raiseError plainExc_IndexError hA hE)

theorem fillR : (fun (_ : OpenLaw) (_ : Params → Frag) => True) PySem.Challenge.rw_mr0190_01 hd.heap_39 := by k_fill; trivial
local macro_rules | `(tactic| k_room) => `(tactic| ktr_room)
local macro_rules | `(tactic| k_units) => `(tactic| ktr_units)
local macro_rules | `(tactic| k_units) => `(tactic| exact Nat.le_of_ble_eq_true rfl)

local macro_rules | `(tactic| walk_at "call builtin:list.pop") => `(tactic| (k_here; k_dflt (refine pop_empty rfl (News.get (by k_asm) (by k_mem)) ?_); intro h' tk' e' x'))

theorem rf {prog : Program} {w : World} {mean : ExcName → Option Value} {mg mb : Str → Option Value} (k : Int) (hk0 : k = 0 ∨ k = 1 ∨ k = 2 ∨ k = 3)
  (dp un : Nat) (gd : Option (List Code)) (cn : Str) (cs : Scope) (a : Addr) (ccd : Value) (cl : List (Str × Addr)) (A₀ : Around) (h₀ : Heap) (L : Addr) (m : Str → Option Value) (news : List (Addr × Obj)) (s : Shared) (t : Tok)
    (Q E : Value → Shared → Prop) (B : Below A₀ h₀ [] h₀) (F : Fr h₀ L s.heap m) (X : (hd.heap_39 w.params).In h₀) (N : News h₀ L s.heap news) (T : Top hd.view_39 (looseW hd.view_39 []) mean mg mb h₀) (hk : cs.kind = .function) (hdp : dp + 5 < 900) (hu : un + 40 < 2000)
    (hret : ∀ h' tk', Fr h₀ L h' m → News h₀ L h' news → Q (.bool true) { s with heap := h', toks := tk' }) :
    wpAny (model prog w) (ktrTop dp un gd cn cs L a ccd cl []) (call (.ref 124) [.int k t]) Q E s := by
  rcases hk0 with rfl | rfl | rfl | rfl
  · refine wpAny_call ?_
    k_dflt (refine' call_try ?k1 ?k2 ?k3 ?k4 ?k5 ?kA ?kF ?kK ?k6 ?k7 ?k8 ?k9 ?kB ?_ ?c2 ?c3 ?c4 ?c5; (case kA => exact rfl); (case kF => exact rfl); (case kK => assumption); (case k1 => k_asm); (case k2 => k_asm); (case k3 => k_asm); (case k4 => k_asm); (case k5 => k_asm); (case k6 => k_is); (case k7 => k_is); (case k8 => ktr_room); (case k9 => exact BindsTo.of_eq rfl); (case c5 => decide); (case kB => exact locs rfl); (case c2 => exact rfl); (case c3 => exact rfl); (case c4 => exact rfl); k_whole; intro g' L' h' FG' F' N' B' X' T' D'; (try dsimp only); (try k_fold))
    k_steps
    exact hret _ _ (by assumption) (kst_newsOf (by assumption) (fun p hp => .tail _ (.tail _ (.tail _ hp))))
  · refine wpAny_call ?_
    k_dflt (refine' call_try ?k1 ?k2 ?k3 ?k4 ?k5 ?kA ?kF ?kK ?k6 ?k7 ?k8 ?k9 ?kB ?_ ?c2 ?c3 ?c4 ?c5; (case kA => exact rfl); (case kF => exact rfl); (case kK => assumption); (case k1 => k_asm); (case k2 => k_asm); (case k3 => k_asm); (case k4 => k_asm); (case k5 => k_asm); (case k6 => k_is); (case k7 => k_is); (case k8 => ktr_room); (case k9 => exact BindsTo.of_eq rfl); (case c5 => decide); (case kB => exact locs rfl); (case c2 => exact rfl); (case c3 => exact rfl); (case c4 => exact rfl); k_whole; intro g' L' h' FG' F' N' B' X' T' D'; (try dsimp only); (try k_fold))
    k_steps
    exact hret _ _ (by assumption) (kst_newsOf (by assumption) (fun p hp => .tail _ (.tail _ (.tail _ hp))))
  · refine wpAny_call ?_
    k_dflt (refine' call_try ?k1 ?k2 ?k3 ?k4 ?k5 ?kA ?kF ?kK ?k6 ?k7 ?k8 ?k9 ?kB ?_ ?c2 ?c3 ?c4 ?c5; (case kA => exact rfl); (case kF => exact rfl); (case kK => assumption); (case k1 => k_asm); (case k2 => k_asm); (case k3 => k_asm); (case k4 => k_asm); (case k5 => k_asm); (case k6 => k_is); (case k7 => k_is); (case k8 => ktr_room); (case k9 => exact BindsTo.of_eq rfl); (case c5 => decide); (case kB => exact locs rfl); (case c2 => exact rfl); (case c3 => exact rfl); (case c4 => exact rfl); k_whole; intro g' L' h' FG' F' N' B' X' T' D'; (try dsimp only); (try k_fold))
    k_steps
    exact hret _ _ (by assumption) (kst_newsOf (by assumption) (fun p hp => .tail _ (.tail _ hp)))
  · refine wpAny_call ?_
    k_dflt (refine' call_try ?k1 ?k2 ?k3 ?k4 ?k5 ?kA ?kF ?kK ?k6 ?k7 ?k8 ?k9 ?kB ?_ ?c2 ?c3 ?c4 ?c5; (case kA => exact rfl); (case kF => exact rfl); (case kK => assumption); (case k1 => k_asm); (case k2 => k_asm); (case k3 => k_asm); (case k4 => k_asm); (case k5 => k_asm); (case k6 => k_is); (case k7 => k_is); (case k8 => ktr_room); (case k9 => exact BindsTo.of_eq rfl); (case c5 => decide); (case kB => exact locs rfl); (case c2 => exact rfl); (case c3 => exact rfl); (case c4 => exact rfl); k_whole; intro g' L' h' FG' F' N' B' X' T' D'; (try dsimp only); (try k_fold))
    k_steps
    exact hret _ _ (by assumption) (kst_newsOf (by assumption) (fun p hp => .tail _ (.tail _ hp)))
end Mine

namespace Mine
theorem fillB : (fun (_ : OpenLaw) (_ : Params → Frag) => True) PySem.Challenge.rw_mr0190_01 hd.heap_39 := by k_fill; trivial
local macro_rules | `(tactic| k_steps) => `(tactic| repeat' (first
  | (fail_if_success (with_reducible show wpAny _ _ (exec (Stmt.While _ _ _ _) _) _ _ _)); (fail_if_success (with_reducible show wpAny _ _ (exec (Stmt.For _ _ _ _ _) _) _ _ _)); (first | (k_unfold; (try dsimp only)) | (k_end; wrow_close) | walk1 | (dsimp only; walk1) | (leave1; walk_say "STEP leave1"; try dsimp only))
  | fail "no step"))

/-- the word of a number -/
def apN (n : Nat) : List Int := if _h : n = 0 then [] else apN (n / 16) ++ [65 + ((n % 16 : Nat) : Int)]
termination_by n
decreasing_by omega

theorem apN_len (n : Nat) : ∀ k, n < 16 ^ k → (apN n).length ≤ k := by
  induction n using Nat.strongRecOn with
  | ind n ih =>
    intro k hk
    rw [apN]
    split
    · exact Nat.zero_le _
    · rename_i h
      match k, hk with
      | 0, hk => simp at hk; omega
      | k + 1, hk =>
        rw [List.length_append]
        have := ih (n / 16) (by omega) k (by rw [Nat.pow_succ] at hk; omega)
        simp only [List.length_cons, List.length_nil]
        omega

def apL : List Int := [65, 66, 67, 68, 69, 70, 71, 72, 73, 74, 75, 76, 77, 78, 79, 80]
theorem pick_one {j : Nat} (h : j < 16) : (apL.drop (clipAt apL.length (j : Int))).take (clipAt apL.length ((j : Int) + 1) - clipAt apL.length (j : Int)) = [65 + (j : Int)] := by
  have : ∀ j : Fin 16, (apL.drop (clipAt apL.length (j.val : Int))).take (clipAt apL.length ((j.val : Int) + 1) - clipAt apL.length (j.val : Int)) = [65 + (j.val : Int)] := by decide
  exact this ⟨j, h⟩

theorem i2 {prog : Program} {w : World} {mean : ExcName → Option Value} {mg mb : Str → Option Value} (x : Nat) (hx1 : x < 2 ^ 20) :
   Con prog w mean mg mb 91 1 (fun _ vs => ∃ t, vs = [.int x t]) (fun news _ r news' => news' = news ∧ ∃ b t, r = .bytes b t ∧ KBw.bInts b = apN x) := by
  unfold Con
  intro dp un gd cn cs a ccd cl outer A₀ base h₀ L m news s vs Q E B F X N T hk hR hd hu hret
  obtain ⟨t, rfl⟩ := hR
  refine wpAny_call ?_
  k_dflt ktr_enter
  rename News _ _ _ _ => N'
  rename Fr _ _ _ _ => F'
  obtain ⟨u0, F1⟩ := fr_ps [(Str.ofString "num", .int x t)] F' (by kst_all)
  clear F'
  dsimp only [kstB] at F1
  k_steps
  rename News _ _ _ _ => N2
  rename Fr _ _ _ _ => F2
  rw [show (if (x : Int) < 0 then -(x : Int) else (x : Int)) = (x : Int) from if_neg (by omega)] at F2
  refine while_rule (n₀ := x)
    (fun k m₁ news₁ => ∃ b t1 t2 t3, news₁ = news ∧ k ≤ x ∧ (KBw.bInts b).length ≤ 5 ∧ apN k ++ KBw.bInts b = apN x ∧
      ∀ q ∈ [(Str.ofString "num", Value.int k t1), (Str.ofString "val", .bytes b t2), (Str.ofString "AP", .bytes #[65, 66, 67, 68, 69, 70, 71, 72, 73, 74, 75, 76, 77, 78, 79, 80] t3)], m₁ q.1 = some q.2)
    (fun m₁ news₁ => ∃ b t2, news₁ = news ∧ KBw.bInts b = apN x ∧ ∀ q ∈ [(Str.ofString "val", Value.bytes b t2)], m₁ q.1 = some q.2)
    F2 N2 ⟨_, _, _, _, rfl, Nat.le_refl _, Nat.zero_le _, List.append_nil _, by kst_all⟩ ?_ ?_
  · clear F2 N2
    rintro k m₁ news₁ h₁ tk₁ F3 N3 ⟨b, t1, t2, t3, rfl, hkx, hbl, hap, hps⟩
    obtain ⟨u1, F4⟩ := fr_ps _ F3 hps
    clear F3 hps
    dsimp only [kstB] at F4
    obtain ⟨ks, hks⟩ : ∃ ks, KBw.bInts b = ks := ⟨_, rfl⟩
    rw [hks] at hbl hap
    have hAP : KBw.bInts #[65, 66, 67, 68, 69, 70, 71, 72, 73, 74, 75, 76, 77, 78, 79, 80] = apL := by decide
    have hAL : apL.length = 16 := rfl
    k_steps
    · rename ((k : Int) ≠ 0) => hk0
      rename (KBw.bInts (_ ++ b) = _) => hkb
      have e2 : (k : Int).fmod 16 = ((k % 16 : Nat) : Int) := by rw [Int.fmod_eq_emod_of_nonneg _ (by omega)]; omega
      have e1 : (k : Int).fdiv 16 = ((k / 16 : Nat) : Int) := by rw [Int.fdiv_eq_ediv_of_nonneg _ (by omega)]; omega
      rename News _ _ _ _ => N8
      rename Fr _ _ _ _ => F8
      rw [e2, e1] at F8
      rw [e2, pick_one (by omega)] at hkb
      have hapk : apN k = apN (k / 16) ++ [65 + ((k % 16 : Nat) : Int)] := by
        conv => lhs; rw [apN]
        rw [dif_neg (by omega)]
      rw [hapk, List.append_assoc] at hap
      have hl5 := apN_len x 5 (by omega)
      rw [← hap, List.length_append] at hl5
      refine WEnd.mk F8 (kst_newsOf N8 (fun p hp => .tail _ hp)) ⟨k / 16, by omega, ?bb, ?t1, ?t2, ?t3, rfl, by omega, ?_, ?_, ?fr⟩
      case fr => kst_all
      · rw [hkb]; omega
      · rw [hkb]; exact hap
    · rename ((k : Int) = 0) => hk0
      have hk1 : k = 0 := by omega
      subst hk1
      rw [apN, dif_pos rfl, List.nil_append] at hap
      exact WEnd.mk F4 N3 ⟨b, t2, rfl, hks.trans hap, by kst_all⟩
  · clear F2 N2
    rintro m₁ news₁ h₁ tk₁ F3 N3 ⟨b, t2, rfl, hb, hps⟩
    obtain ⟨u1, F4⟩ := fr_ps _ F3 hps
    clear F3 hps
    dsimp only [kstB] at F4
    k_steps
    exact hret _ _ _ _ (by assumption) (by assumption) ⟨rfl, _, _, rfl, hb⟩

theorem tl {prog : Program} {w : World} {mean : ExcName → Option Value} {mg mb : Str → Option Value} (x sz : Nat) (hx1 : x < 256) (hsz : sz = 1 ∨ sz = 2) :
   Con prog w mean mg mb 105 1 (fun _ vs => ∃ t u, vs = [.int x t, .int sz u]) (fun news _ r news' => news' = news ∧ ∃ b t, r = .bytes b t ∧ KBw.bInts b = ([65 + (((x / 16 : Nat)) : Int), 65 + ((x % 16 : Nat) : Int)]).drop (2 - sz)) := by
  unfold Con
  intro dp un gd cn cs a ccd cl outer A₀ base h₀ L m news s vs Q E B F X N T hk hR hd hu hret
  obtain ⟨t, u, rfl⟩ := hR
  refine wpAny_call ?_
  k_dflt ktr_enter
  rename News _ _ _ _ => N'
  rename Fr _ _ _ _ => F'
  obtain ⟨u0, F1⟩ := fr_ps [(Str.ofString "worth", .int x t), (Str.ofString "size", .int sz u)] F' (by kst_all)
  clear F'
  dsimp only [kstB] at F1
  k_steps
  rename News _ _ _ _ => N2
  rename Fr _ _ _ _ => F2
  have e1 : (x : Int).fdiv 16 = ((x / 16 : Nat) : Int) := by rw [Int.fdiv_eq_ediv_of_nonneg _ (by omega)]; omega
  have e2 : (x : Int).fmod 16 = ((x % 16 : Nat) : Int) := by rw [Int.fmod_eq_emod_of_nonneg _ (by omega)]; omega
  rw [e1, e2] at N2
  refine KBa.make_K F2 N2 rfl (ns := [65 + (((x / 16 : Nat)) : Int), 65 + ((x % 16 : Nat) : Int)]) (vs := [_, _]) (PySem.IsL.isList (N2 _ (.head _)).1) (.cons _ _ (.cons _ _ .nil)) ?_ (by simp) ?_
  · intro n hn
    rcases List.mem_cons.mp hn with rfl | hn
    · omega
    · rw [List.mem_singleton.mp hn]; omega
  intro h' t' k' F3 N3 hin
  have hbi := KBa.ints_make hin
  k_steps
  rename (KBw.bInts _ = List.take _ _) => hp
  refine hret _ _ _ _ (by assumption) (kst_newsOf (by assumption) (fun p hp => .tail _ hp)) ⟨rfl, _, _, rfl, ?_⟩
  rw [hp]
  rcases hsz with rfl | rfl <;> rfl

theorem rd {prog : Program} {w : World} {mean : ExcName → Option Value} {mg mb : Str → Option Value} (ks : List Int) (hlen : ks.length < 100) (hrange : ∀ k ∈ ks, 65 ≤ k ∧ k ≤ 80) (h0 : ks[0]? ≠ some 65) :
   Con prog w mean mg mb 112 1 (fun _ vs => ∃ b t, vs = [.bytes b t] ∧ KBw.bInts b = ks) (fun news _ r news' => news' = news ∧ ∃ t, r = .int (ks.foldl (fun t o => t * 16 + o - 65) 0) t) := by
  unfold Con
  intro dp un gd cn cs a ccd cl outer A₀ base h₀ L m news s vs Q E B F X N T hk hR hd hu hret
  obtain ⟨b, t, rfl, hb⟩ := hR
  refine wpAny_call ?_
  k_dflt ktr_enter
  rename News _ _ _ _ => N'
  rename Fr _ _ _ _ => F'
  obtain ⟨u0, F1⟩ := fr_ps [(Str.ofString "word", .bytes b t)] F' (by kst_all)
  clear F'
  dsimp only [kstB] at F1
  k_steps
  · exfalso
    rename (KBw.bInts _ = List.take _ _) => hp
    rename ((_ == _) = true) => he
    have he' : (KBy.picked b none (some 1)).toList = #[65].toList := eq_of_beq he
    have hi : KBw.bInts (KBy.picked b none (some 1)) = [65] := by
      show (KBy.picked b none (some 1)).toList.map _ = _
      rw [he']; rfl
    rw [hi] at hp
    match ks, hp, h0 with
    | [], hp, _ => simp at hp
    | k :: r, hp, h0 =>
      have h1 : clipAt (k :: r).length 1 = 1 := by simp only [List.length_cons, clipAt]; omega
      rw [h1] at hp
      simp only [List.take_succ_cons, List.take_zero, List.cons.injEq, and_true] at hp
      exact h0 (by rw [← hp]; rfl)
  rename News _ _ _ _ => N2
  rename Fr _ _ _ _ => F2
  k_dflt (refine For_invVF F2 rfl rfl ?_)
  k_dflt (refine ld F2 rfl ?_)
  refine iter_bytesK hb rfl F2 N2
    (fun i m₁ news₁ => news₁ = news ∧ ∃ t1, ∀ q ∈ [(Str.ofString "total", Value.int ((ks.take i).foldl (fun t o => t * 16 + o - 65) 0) t1)], m₁ q.1 = some q.2)
    (fun _ _ _ h => by rw [h.1]; exact fun _ hp => hp) ⟨rfl, _, by kst_all⟩ ?_ ?_
  · clear F2 N2
    rintro i k t m₁ news₁ h₁ tk₁ own hi ⟨rfl, t1, hps⟩ F3 N3
    dsimp only [envOf] at F3 N3
    have hk1 := hrange k (List.mem_of_getElem? hi)
    obtain ⟨hk2, hk3⟩ := hk1
    obtain ⟨u1, F4⟩ := fr_ps [(Str.ofString "octet", .int k t), (Str.ofString "total", Value.int ((ks.take i).foldl (fun t o => t * 16 + o - 65) 0) t1)] F3 (by
      refine List.forall_mem_cons.mpr ⟨if_pos rfl, List.forall_mem_cons.mpr ⟨?_, List.forall_mem_nil _⟩⟩
      exact (if_neg (show ¬ Str.ofString "total" = Str.ofString "octet" from by decide)).trans (hps _ (.head _)))
    clear F3 hps
    dsimp only [kstB] at F4
    k_steps
    rename News _ _ _ _ => N8
    rename Fr _ _ _ _ => F8
    have ef : (ks.take (i + 1)).foldl (fun t o => t * 16 + o - 65) 0 = (ks.take i).foldl (fun t o => t * 16 + o - 65) 0 * 16 + k - 65 := by
      rw [List.take_add_one, hi, List.foldl_append]; rfl
    refine FEndK.mk news₁ F8 N8 (fun p hp => List.mem_append.mpr (.inl hp)) (fun p hp => List.mem_append.mpr (.inr hp)) ⟨rfl, ?t9, ?fr⟩
    case fr =>
      rw [ef]
      kst_all
  · clear F2 N2
    rintro h₁ tk₁ m₁ news₁ F3 N3 ⟨rfl, t1, hps⟩
    rw [List.take_length] at hps
    dsimp only [envOf] at F3 N3
    obtain ⟨u1, F4⟩ := fr_ps _ F3 hps
    clear F3 hps
    dsimp only [kstB] at F4
    k_steps
    exact hret _ _ _ _ (by assumption) (by assumption) ⟨rfl, _, rfl⟩
end Mine

namespace Mine
theorem fillA : (fun (_ : OpenLaw) (_ : Params → Frag) => True) PySem.Challenge.rw_mr0190_01 hd.heap_39 := by k_fill; trivial
local macro_rules | `(tactic| k_steps) => `(tactic| repeat' (first
  | (fail_if_success (with_reducible show wpAny _ _ (exec (Stmt.While _ _ _ _) _) _ _ _)); (fail_if_success (with_reducible show wpAny _ _ (exec (Stmt.For _ _ _ _ _) _) _ _ _)); (fail_if_success (with_reducible show wpAny _ _ (pyIter _) (fun _ _ => LoopAtV _ _ _ _ _ _ _ _ _ _ _) _ _)); (first | (k_unfold; (try dsimp only)) | (k_end; wrow_close) | walk1 | (dsimp only; walk1) | (leave1; walk_say "STEP leave1"; try dsimp only))
  | fail "no step"))

structure RowD where
  ad : Addr
  first : Int
  step : Int
  count : Int
  worth : Int
  size : Int

abbrev dR : RowD := ⟨0, 0, 0, 0, 0, 0⟩
def rrefs (rs : List RowD) : List Value := rs.map fun r => .ref r.ad
theorem rrefs_length (rs : List RowD) : (rrefs rs).length = rs.length := by simp [rrefs]
theorem rrefs_get {rs : List RowD} {i : Nat} (hi : i < rs.length) : (rrefs rs)[i]? = some (.ref (rs.getD i dR).ad) := by simp [rrefs, hi]

theorem mem_getD {rs : List RowD} {i : Nat} (hi : i < rs.length) : rs.getD i dR ∈ rs := by
  rw [List.getD_eq_getElem?_getD, List.getElem?_eq_getElem hi]
  exact List.getElem_mem hi
def BearsR (news : List (Addr × Obj)) (r : RowD) : Prop :=
  ∃ t1 t2 t3 t4 t5 n, (r.ad, listOf #[.int r.first t1, .int r.step t2, .int r.count t3, .int r.worth t4, .int r.size t5] n) ∈ news
theorem bearsR_at {news : List (Addr × Obj)} {l : List RowD} {i : Nat} (hb : ∀ c ∈ l, BearsR news c) (hi : i < l.length) : BearsR news (l.getD i dR) := by
  refine hb _ ?_
  rw [List.getD_eq_getElem?_getD, List.getElem?_eq_getElem hi]
  exact List.getElem_mem hi

/-- how many of a row's numbers go ahead -/
def aheadR (up : Bool) (num plc : Int) (o : Int) (r : RowD) : Int :=
  let gap := if up then num - r.first + (if o < plc then 1 else 0) else r.first - num + (if plc < o then 1 else 0)
  if 0 < gap then (if (gap + r.step - 1).fdiv r.step < r.count then (gap + r.step - 1).fdiv r.step else r.count) else 0
def aheadL (up : Bool) (num plc : Int) (rs : List RowD) : Nat → Int
  | 0 => 0
  | i + 1 => aheadL up num plc rs i + aheadR up num plc i (rs.getD i dR)

theorem ah {prog : Program} {w : World} {mean : ExcName → Option Value} {mg mb : Str → Option Value} (ra : Addr) (rs : List RowD) (nr : Nat) (c : Cell) (up : Bool) (hlen : rs.length < 100) (hst : ∀ r ∈ rs, 0 < r.step ∧ r.step ≤ 256 ∧ 0 ≤ r.first ∧ r.first < 2 ^ 30) (hn0 : 0 ≤ c.num) (hn1 : c.num < 2 ^ 30) :
   Con prog w mean mg mb 131 1 (fun news vs => vs = [.ref ra, .ref c.ad, .bool up] ∧ (ra, listOf (rrefs rs).toArray nr) ∈ news ∧ (∀ r ∈ rs, BearsR news r) ∧ Bears news c)
     (fun news _ r news' => news' = news ∧ ∃ t, r = .int (aheadL up c.num c.plc rs rs.length) t) := by
  unfold Con
  intro dp un gd cn cs a ccd cl outer A₀ base h₀ L m news s vs Q E B F X N T hk hR hd hu hret
  obtain ⟨rfl, hra, hrs, ⟨tc1, tc2, nc, hc⟩⟩ := hR
  refine wpAny_call ?_
  k_dflt ktr_enter
  rename News _ _ _ _ => N'
  rename Fr _ _ _ _ => F'
  obtain ⟨u0, F1⟩ := fr_ps [(Str.ofString "rows", .ref ra), (Str.ofString "item", .ref c.ad), (Str.ofString "up", .bool up)] F' (by kst_all)
  clear F'
  dsimp only [kstB] at F1
  k_steps
  rename News _ _ _ _ => N2
  rename Fr _ _ _ _ => F2
  k_dflt (refine For_invVF F2 rfl rfl ?_)
  k_steps
  refine len_any N2 hra (by rw [rrefs_length]; omega) ?_
  rw [rrefs_length]
  k_steps
  rename IsRange _ _ _ _ _ _ _ _ => R3
  rename News _ _ _ _ => N3
  rename Fr _ _ _ _ => F3
  refine iter_rangeK (n := rs.length) rfl R3 ?_ ?_ F3 N3
    (fun i m₁ news₁ => news₁ = news ∧ ∃ z t1, z = aheadL up c.num c.plc rs i ∧ ∀ q ∈ [(Str.ofString "rows", Value.ref ra), (Str.ofString "up", .bool up), (Str.ofString "number", .int c.num tc1), (Str.ofString "place", .int c.plc tc2), (Str.ofString "total", .int z t1)], m₁ q.1 = some q.2)
    (fun _ _ _ h => by rw [h.1]; exact fun _ hp => hp) ⟨rfl, 0, _, rfl, by kst_all⟩ ?_ ?_
  · exact range_small (by omega)
  · exact range_size _
  · clear F3 N3 R3
    rintro i t m₁ news₁ h₁ tk₁ own hi ⟨rfl, z, t1, hz, hps⟩ F4 N4
    dsimp only [envOf] at F4 N4
    obtain ⟨u1, F5⟩ := fr_loop _ F4 hps rfl
    clear F4 hps
    rw [show (0 + (i : Int) * 1) = (i : Int) from by omega] at F5
    dsimp only [kstB] at F5
    k_steps
    obtain ⟨s1, s2, s3, s4, s5, ns, hro⟩ := bearsR_at hrs hi
    refine item_any N4 (List.mem_append.mpr (.inr hra)) rfl (by rw [rrefs_length]; omega) (rrefs_get hi) ?_
    have hro' := List.mem_append.mpr (.inr hro : _ ∈ own ∨ _)
    obtain ⟨hs1, hs2, hs3, hs4⟩ := hst _ (mem_getD hi)
    have eA : aheadL up c.num c.plc rs (i + 1) = aheadL up c.num c.plc rs i + aheadR up c.num c.plc i (rs.getD i dR) := rfl
    generalize rs.getD i dR = r at *
    rw [← hz] at eA
    cases up
    all_goals k_steps
    all_goals (
      rename News _ _ _ _ => N8
      rename Fr _ _ _ _ => F8
      refine' FEndK.mk news₁ F8 N8 (fun p hp => .tail _ (List.mem_append.mpr (.inl hp))) (fun p hp => .tail _ (List.mem_append.mpr (.inr hp))) ⟨rfl, _, _, ?_, ?_⟩
      rotate_left 3
      kst_all
      rw [eA]
      unfold aheadR
      simp only [Bool.false_eq_true, if_true, if_false]
      first
        | rw [if_pos (show (i : Int) < c.plc by assumption)]
        | rw [if_neg (show ¬ (i : Int) < c.plc by assumption)]
        | rw [if_pos (show c.plc < (i : Int) by assumption)]
        | rw [if_neg (show ¬ c.plc < (i : Int) by assumption)]
      first
        | rw [if_pos (show (0 : Int) < c.num - r.first + 1 by assumption)]
        | rw [if_pos (show (0 : Int) < c.num - r.first + 0 by assumption)]
        | rw [if_pos (show (0 : Int) < r.first - c.num + 1 by assumption)]
        | rw [if_pos (show (0 : Int) < r.first - c.num + 0 by assumption)]
        | (rw [if_neg (show ¬ (0 : Int) < c.num - r.first + 1 by assumption)]; omega)
        | (rw [if_neg (show ¬ (0 : Int) < c.num - r.first + 0 by assumption)]; omega)
        | (rw [if_neg (show ¬ (0 : Int) < r.first - c.num + 1 by assumption)]; omega)
        | (rw [if_neg (show ¬ (0 : Int) < r.first - c.num + 0 by assumption)]; omega))
  · clear F3 N3 R3
    rintro h₁ tk₁ m₁ news₁ F4 N4 ⟨rfl, z, t1, rfl, hps⟩
    dsimp only [envOf] at F4 N4
    obtain ⟨u1, F5⟩ := fr_ps _ F4 hps
    clear F4 hps
    dsimp only [kstB] at F5
    k_steps
    exact hret _ _ _ _ (by assumption) (by assumption) ⟨rfl, _, rfl⟩
end Mine

namespace Mine
theorem fillRo : (fun (_ : OpenLaw) (_ : Params → Frag) => True) PySem.Challenge.rw_mr0190_01 hd.heap_39 := by k_fill; trivial
local macro_rules | `(tactic| k_steps) => `(tactic| repeat' (first
  | (fail_if_success (with_reducible show wpAny _ _ (exec (Stmt.While _ _ _ _) _) _ _ _)); (fail_if_success (with_reducible show wpAny _ _ (exec (Stmt.For _ _ _ _ _) _) _ _ _)); (fail_if_success (with_reducible show wpAny _ _ (pyIter _) (fun _ _ => LoopAtV _ _ _ _ _ _ _ _ _ _ _) _ _)); (first | (k_unfold; (try dsimp only)) | (k_end; wrow_close) | walk1 | (dsimp only; walk1) | (leave1; walk_say "STEP leave1"; try dsimp only))
  | fail "no step"))

/-- a row's numbers -/
structure RowN where
  first : Int
  step : Int
  count : Int
  worth : Int
  size : Int

def mkRow (b : Int) (up : Bool) (x : Int) : RowN :=
  ⟨if up then b + (((x.fmod (10 ^ Int.toNat 6)).fdiv 2).fmod (16 ^ ((x.fmod (10 ^ Int.toNat 6)).fmod 2 + 1).toNat) - b).fmod (16 ^ ((x.fmod (10 ^ Int.toNat 6)).fmod 2 + 1).toNat)
    else b - (b - ((x.fmod (10 ^ Int.toNat 6)).fdiv 2).fmod (16 ^ ((x.fmod (10 ^ Int.toNat 6)).fmod 2 + 1).toNat)).fmod (16 ^ ((x.fmod (10 ^ Int.toNat 6)).fmod 2 + 1).toNat),
   16 ^ ((x.fmod (10 ^ Int.toNat 6)).fmod 2 + 1).toNat, ((x.fmod (10 ^ Int.toNat 6)).fdiv 512).fmod 4 + 1,
   ((x.fmod (10 ^ Int.toNat 6)).fdiv 2).fmod (16 ^ ((x.fmod (10 ^ Int.toNat 6)).fmod 2 + 1).toNat), (x.fmod (10 ^ Int.toNat 6)).fmod 2 + 1⟩
def rowAt (a : Addr) (n : RowN) : RowD := ⟨a, n.first, n.step, n.count, n.worth, n.size⟩
theorem rrefs_app (rs : List RowD) (r : RowD) : rrefs (rs ++ [r]) = rrefs rs ++ [.ref r.ad] := by simp [rrefs]
def RowD.num (r : RowD) : RowN := ⟨r.first, r.step, r.count, r.worth, r.size⟩

theorem news_turn {own objs rest : List (Addr × Obj)} {n r : Addr × Obj} : ∀ p ∈ r :: n :: (objs ++ (rest ++ own)), p ∈ n :: (own ++ r :: (objs ++ rest)) := by
  intro p hp
  rcases List.mem_cons.mp hp with rfl | hp
  · exact .tail _ (List.mem_append.mpr (.inr (.head _)))
  · rcases List.mem_cons.mp hp with rfl | hp
    · exact .head _
    · rcases List.mem_append.mp hp with hp | hp
      · exact .tail _ (List.mem_append.mpr (.inr (.tail _ (List.mem_append.mpr (.inl hp)))))
      · rcases List.mem_append.mp hp with hp | hp
        · exact .tail _ (List.mem_append.mpr (.inr (.tail _ (List.mem_append.mpr (.inr hp)))))
        · exact .tail _ (List.mem_append.mpr (.inl hp))
theorem news_turn2 {own objs rest : List (Addr × Obj)} {n r : Addr × Obj} : ∀ p ∈ r :: (n :: objs ++ rest), p ∈ r :: n :: (objs ++ (rest ++ own)) := by
  intro p hp
  rcases List.mem_cons.mp hp with rfl | hp
  · exact .head _
  · rcases List.mem_append.mp hp with hp | hp
    · rcases List.mem_cons.mp hp with rfl | hp
      · exact .tail _ (.head _)
      · exact .tail _ (.tail _ (List.mem_append.mpr (.inl hp)))
    · exact .tail _ (.tail _ (List.mem_append.mpr (.inr (List.mem_append.mpr (.inl hp)))))

theorem name_sum {h₀ h : Heap} {L ax : Addr} {rest : List (Addr × Obj)} {us : List Value} {xs : List Int} {a b : Int} {t u : Tok} (N : News h₀ L h ((ax, listOf (us ++ [Value.int a t, Value.int b u]).toArray 0) :: rest)) (hus : IntsAre us xs) :
    ∃ ws, IntsAre ws (xs ++ [a, b]) ∧ News h₀ L h ((ax, listOf ws.toArray 0) :: rest) := ⟨_, hus.append (.cons _ _ (.cons _ _ .nil)), N⟩

theorem ro {prog : Program} {w : World} {mean : ExcName → Option Value} {mg mb : Str → Option Value} (sa : Addr) (xs : List Int) (b : Int) (up : Bool) (hlen : xs.length < 50) (hb0 : 0 ≤ b) (hb1 : b < 2 ^ 20) :
   Con prog w mean mg mb 98 1 (fun news vs => ∃ t us ns, vs = [.ref sa, .int b t, .bool up] ∧ (sa, listOf us.toArray ns) ∈ news ∧ IntsAre us xs ∧ ∀ p ∈ news, NF p.2)
     (fun news _ r news' => ∃ ra rs k objs, r = .ref ra ∧ news' = (ra, listOf (rrefs rs).toArray k) :: (objs ++ news) ∧ rs.map RowD.num = (xs ++ [1542, 545]).map (mkRow b up) ∧ (∀ r ∈ rs, BearsR objs r) ∧ (∀ p ∈ objs, p.1 ≠ ra ∧ NF p.2) ∧ ∀ p ∈ news, p.1 ≠ ra) := by
  unfold Con
  intro dp un gd cn cs a ccd cl outer A₀ base h₀ L m news s vs Q E B F X N T hk hR hd hu hret
  obtain ⟨t, us, ns, rfl, hsa, hus, hcls⟩ := hR
  refine wpAny_call ?_
  k_dflt ktr_enter
  rename News _ _ _ _ => N'
  rename Fr _ _ _ _ => F'
  obtain ⟨u0, F1⟩ := fr_ps [(Str.ofString "script", .ref sa), (Str.ofString "begin", .int b t), (Str.ofString "up", .bool up)] F' (by kst_all)
  clear F'
  dsimp only [kstB] at F1
  k_steps
  rename News _ _ _ _ => N2
  rename Fr _ _ _ _ => F2
  obtain ⟨ra, hra⟩ := name_it N2
  subst hra
  k_dflt (refine For_invVF F2 rfl rfl ?_)
  k_steps
  rename News _ _ _ _ => N3
  rename Fr _ _ _ _ => F3
  obtain ⟨lx, hlx⟩ := name_it N3
  subst hlx
  rename (_ ∧ AllLt _ _) => hlt2
  rename (∀ p ∈ news, p.1 < _) => hlt1
  refine add_any (ws := [_, _]) F3 N3 (.tail _ (.tail _ hsa)) (.head _) (by rw [hus.length]; simp only [List.length_cons, List.length_nil]; omega) ?_
  intro ax h4 F4 N4 hax
  obtain ⟨ws, hints, N4a⟩ := name_sum N4 hus
  clear N4
  have N4 := N4a
  clear N4a
  generalize hys : xs ++ [1542, 545] = ys at *
  have hne0 : ∀ p ∈ (ax, listOf ws.toArray 0) :: news, p.1 ≠ ra := by
    intro p hp
    rcases List.mem_cons.mp hp with rfl | hp
    · have h1 : ra < ax := hax (ra, listOf #[] 0) (.tail _ (.head _))
      exact Nat.ne_of_gt h1
    · exact Nat.ne_of_lt (hlt1 p hp)
  have hcl0 : ∀ p ∈ (ax, listOf ws.toArray 0) :: news, NF p.2 := by
    intro p hp
    rcases List.mem_cons.mp hp with rfl | hp
    · exact nf_list
    · exact hcls p hp
  have N5 : News _ _ _ ((ra, listOf (rrefs []).toArray 0) :: ([] ++ (ax, listOf ws.toArray 0) :: news)) := kst_newsOf N4 (fun p hp => by
    rcases List.mem_cons.mp hp with rfl | hp
    · exact .tail _ (.tail _ (.head _))
    · rcases List.mem_cons.mp hp with rfl | hp
      · exact .head _
      · exact .tail _ (.tail _ (.tail _ hp)))
  clear N3 F3 N4 hax hlt1 hlt2
  refine iter_listA (vs := ws) (k := 0) rfl (.tail _ (.head _)) F4 N5 ?_
    (fun i m₁ news₁ => ∃ rs objs k, news₁ = (ra, listOf (rrefs rs).toArray k) :: (objs ++ (ax, listOf ws.toArray 0) :: news) ∧ rs.length = i ∧ rs.map RowD.num = (ys.take i).map (mkRow b up) ∧ (∀ r ∈ rs, BearsR objs r) ∧ (∀ p ∈ objs, p.1 ≠ ra ∧ NF p.2) ∧
      ∀ q ∈ [(Str.ofString "rows", Value.ref ra), (Str.ofString "begin", .int b t), (Str.ofString "up", .bool up)], m₁ q.1 = some q.2)
    ⟨[], [], 0, rfl, rfl, rfl, (fun _ h => nomatch h), (fun _ h => nomatch h), by kst_all⟩ ?_ ?_
  · intro p hp
    rcases List.mem_cons.mp hp with rfl | hp
    · exact nf_list
    · exact hcl0 p hp
  · clear F4 N5
    rintro i v m₁ news₁ h₁ tk₁ own hi ⟨rs, objs, k, rfl, hrl, hrs, hbr, hob, hps⟩ hcl1 hown F6 N6
    dsimp only [envOf] at F6 N6
    have hil : i < ys.length := by
      rw [← hints.length]
      rcases Nat.lt_or_ge i ws.length with h | h
      · exact h
      · rw [List.getElem?_eq_none h] at hi; cases hi
    obtain ⟨tx, hx⟩ := hints.get i ys[i] (by simp [hil])
    rw [hx] at hi
    obtain rfl := (Option.some.inj hi).symm
    generalize hxi : ys[i] = x at *
    obtain ⟨u1, F7⟩ := fr_loop _ F6 hps rfl
    clear F6 hps
    dsimp only [kstB] at F7
    cases up
    · k_steps
      rename (∀ p ∈ own ++ _, p.1 < _) => hlt
      rename News _ _ _ _ => N8
      rename Fr _ _ _ _ => F8
      obtain ⟨l', hl'⟩ := name_it N8
      subst hl'
      have hra' : ra < l' := hlt (ra, listOf (rrefs rs).toArray k) (List.mem_append.mpr (.inr (.head _)))
      have hownr : ∀ p ∈ own, p.1 ≠ ra := by
        intro p hp
        rcases hown p hp with hc | hc
        · exact news_ne (o := p.2) (o' := listOf (rrefs rs).toArray k) N8 (.tail _ (List.mem_append.mpr (.inl hp))) (.tail _ (List.mem_append.mpr (.inr (.head _)))) hc nf_list
        · rw [hc]; exact hne0 (ax, _) (.head _)
      refine append_any (vs := rrefs rs) (n := k) F8 (rest := (l', _) :: (objs ++ (((ax, listOf ws.toArray 0) :: news) ++ own))) (kst_newsOf N8 (news_turn)) ?_ (by rw [rrefs_length]; rw [← hys] at hil; simp only [List.length_append, List.length_cons, List.length_nil] at hil; omega) (fun h9 F9 N9 => ?_)
      · intro p hp
        rcases List.mem_cons.mp hp with rfl | hp
        · exact Nat.ne_of_gt hra'
        · rcases List.mem_append.mp hp with hp | hp
          · exact (hob p hp).1
          · rcases List.mem_append.mp hp with hp | hp
            · exact hne0 p hp
            · exact hownr p hp
      clear N8 F8
      rw [show rrefs rs ++ [Value.ref l'] = rrefs (rs ++ [rowAt l' (mkRow b false x)]) from (rrefs_app rs (rowAt l' (mkRow b false x))).symm] at N9
      k_steps
      rename News _ _ _ _ => N10
      rename Fr _ _ _ _ => F10
      refine FEnd.mk (_ :: ((l', _) :: objs ++ (ax, listOf ws.toArray 0) :: news)) F10 N10 (fun p hp => .tail _ (.tail _ (List.mem_append.mpr (.inr (List.mem_append.mpr (.inr hp)))))) news_turn2 ?_ ⟨rs ++ [rowAt l' (mkRow b false x)], (l', _) :: objs, k + 1, rfl, ?_, ?_, ?_, ?_, by kst_all⟩
      · intro q hq
        rcases List.mem_cons.mp hq with rfl | hq
        · exact nf_list
        · rcases List.mem_append.mp hq with hq | hq
          · rcases List.mem_cons.mp hq with rfl | hq
            · exact nf_list
            · exact (hob q hq).2
          · exact hcl0 q hq
      · rw [List.length_append, hrl]; rfl
      · rw [List.map_append, hrs, List.take_add_one, List.getElem?_eq_getElem hil, hxi, List.map_append]; rfl
      · intro r hr
        rcases List.mem_append.mp hr with hr | hr
        · obtain ⟨a1, a2, a3, a4, a5, a6, hm⟩ := hbr r hr
          exact ⟨a1, a2, a3, a4, a5, a6, .tail _ hm⟩
        · rw [List.mem_singleton.mp hr]
          exact ⟨_, _, _, _, _, _, .head _⟩
      · intro p hp
        rcases List.mem_cons.mp hp with rfl | hp
        · exact ⟨Nat.ne_of_gt hra', nf_list⟩
        · exact hob p hp
    · k_steps
      rename (∀ p ∈ own ++ _, p.1 < _) => hlt
      rename News _ _ _ _ => N8
      rename Fr _ _ _ _ => F8
      obtain ⟨l', hl'⟩ := name_it N8
      subst hl'
      have hra' : ra < l' := hlt (ra, listOf (rrefs rs).toArray k) (List.mem_append.mpr (.inr (.head _)))
      have hownr : ∀ p ∈ own, p.1 ≠ ra := by
        intro p hp
        rcases hown p hp with hc | hc
        · exact news_ne (o := p.2) (o' := listOf (rrefs rs).toArray k) N8 (.tail _ (List.mem_append.mpr (.inl hp))) (.tail _ (List.mem_append.mpr (.inr (.head _)))) hc nf_list
        · rw [hc]; exact hne0 (ax, _) (.head _)
      refine append_any (vs := rrefs rs) (n := k) F8 (rest := (l', _) :: (objs ++ (((ax, listOf ws.toArray 0) :: news) ++ own))) (kst_newsOf N8 (news_turn)) ?_ (by rw [rrefs_length]; rw [← hys] at hil; simp only [List.length_append, List.length_cons, List.length_nil] at hil; omega) (fun h9 F9 N9 => ?_)
      · intro p hp
        rcases List.mem_cons.mp hp with rfl | hp
        · exact Nat.ne_of_gt hra'
        · rcases List.mem_append.mp hp with hp | hp
          · exact (hob p hp).1
          · rcases List.mem_append.mp hp with hp | hp
            · exact hne0 p hp
            · exact hownr p hp
      clear N8 F8
      rw [show rrefs rs ++ [Value.ref l'] = rrefs (rs ++ [rowAt l' (mkRow b true x)]) from (rrefs_app rs (rowAt l' (mkRow b true x))).symm] at N9
      k_steps
      rename News _ _ _ _ => N10
      rename Fr _ _ _ _ => F10
      refine FEnd.mk (_ :: ((l', _) :: objs ++ (ax, listOf ws.toArray 0) :: news)) F10 N10 (fun p hp => .tail _ (.tail _ (List.mem_append.mpr (.inr (List.mem_append.mpr (.inr hp)))))) news_turn2 ?_ ⟨rs ++ [rowAt l' (mkRow b true x)], (l', _) :: objs, k + 1, rfl, ?_, ?_, ?_, ?_, by kst_all⟩
      · intro q hq
        rcases List.mem_cons.mp hq with rfl | hq
        · exact nf_list
        · rcases List.mem_append.mp hq with hq | hq
          · rcases List.mem_cons.mp hq with rfl | hq
            · exact nf_list
            · exact (hob q hq).2
          · exact hcl0 q hq
      · rw [List.length_append, hrl]; rfl
      · rw [List.map_append, hrs, List.take_add_one, List.getElem?_eq_getElem hil, hxi, List.map_append]; rfl
      · intro r hr
        rcases List.mem_append.mp hr with hr | hr
        · obtain ⟨a1, a2, a3, a4, a5, a6, hm⟩ := hbr r hr
          exact ⟨a1, a2, a3, a4, a5, a6, .tail _ hm⟩
        · rw [List.mem_singleton.mp hr]
          exact ⟨_, _, _, _, _, _, .head _⟩
      · intro p hp
        rcases List.mem_cons.mp hp with rfl | hp
        · exact ⟨Nat.ne_of_gt hra', nf_list⟩
        · exact hob p hp
  · clear F4 N5
    rintro h₁ tk₁ m₁ news₁ F6 N6 hcl1 ⟨rs, objs, k, rfl, hrl, hrs, hbr, hob, hps⟩
    dsimp only [envOf] at F6 N6
    obtain ⟨u1, F7⟩ := fr_ps _ F6 hps
    clear F6 hps
    dsimp only [kstB] at F7
    k_steps
    refine hret _ _ _ _ (by assumption) (kst_newsOf (by assumption) (fun p hp => ?_)) ⟨ra, rs, k, objs, rfl, rfl, ?_, hbr, hob, fun p hp => hne0 p (.tail _ hp)⟩
    · rcases List.mem_cons.mp hp with rfl | hp
      · exact .head _
      · rcases List.mem_append.mp hp with hp | hp
        · exact .tail _ (List.mem_append.mpr (.inl hp))
        · exact .tail _ (List.mem_append.mpr (.inr (.tail _ hp)))
    · rw [hrs, hints.length, List.take_length]
end Mine

namespace Mine

/-- a strict order whose non-less is a preorder -/
structure Tot (lt : Cell → Cell → Bool) : Prop where
  asym : ∀ a b, lt a b = true → lt b a = false
  trans : ∀ a b c, lt b a = false → lt c b = false → lt c a = false

theorem Tot.irr {lt : Cell → Cell → Bool} (T : Tot lt) (a : Cell) : lt a a = false := by
  cases h : lt a a with
  | false => rfl
  | true => rw [T.asym a a h] at h; cases h

theorem ltC_false {a b : Cell} : ltC a b = false ↔ b.num < a.num ∨ (b.num = a.num ∧ b.plc ≤ a.plc) := by
  unfold ltC ltP
  split <;> rw [decide_eq_false_iff_not] <;> omega
theorem ltC_true {a b : Cell} : ltC a b = true ↔ a.num < b.num ∨ (a.num = b.num ∧ a.plc < b.plc) := by
  unfold ltC ltP
  split <;> rw [decide_eq_true_iff] <;> omega

theorem tot_lt : Tot ltC where
  asym a b h := by rw [ltC_true] at h; rw [ltC_false]; omega
  trans a b c h1 h2 := by rw [ltC_false] at *; omega
theorem tot_gt : Tot gtC where
  asym a b h := by
    have h' : ltC b a = true := h
    show ltC a b = false
    rw [ltC_true] at h'; rw [ltC_false]; omega
  trans a b c h1 h2 := by
    have h1' : ltC a b = false := h1
    have h2' : ltC b c = false := h2
    show ltC a c = false
    rw [ltC_false] at *; omega

def HF (lt : Cell → Cell → Bool) (st : Nat) (l : List Cell) : Prop :=
  ∀ q k, st ≤ q → (k = 2 * q + 1 ∨ k = 2 * q + 2) → k < l.length → lt (l.getD k dC) (l.getD q dC) = false

theorem getD_set2 (l : List Cell) (i k : Nat) (x : Cell) (hi : i < l.length) : (l.set i x).getD k dC = if i = k then x else l.getD k dC := by
  rw [List.getD_eq_getElem?_getD, List.getElem?_set]
  split
  · subst_vars; simp
  · rw [List.getD_eq_getElem?_getD]
theorem getD_ne {l : List Cell} {i k : Nat} {x : Cell} (hi : i < l.length) (h : i ≠ k) : (l.set i x).getD k dC = l.getD k dC := by
  rw [getD_set2 l i k x hi, if_neg h]

theorem set_perm (a : Cell) : ∀ (l : List Cell) (i : Nat), i < l.length → (l.getD i dC :: l.set i a).Perm (a :: l) := by
  intro l
  induction l with
  | nil => intro i hi; simp at hi
  | cons b l ih =>
    intro i hi
    cases i with
    | zero => exact List.Perm.swap ..
    | succ i =>
      have h1 := ih i (by simpa using hi)
      show (l.getD i dC :: b :: l.set i a).Perm (a :: b :: l)
      exact ((List.Perm.swap ..).trans (h1.cons b)).trans (List.Perm.swap ..)

theorem swap_perm {l : List Cell} {i j : Nat} {x : Cell} (hi : i < l.length) (hj : j < l.length) (hij : i ≠ j) : ((l.set i (l.getD j dC)).set j x).Perm (l.set i x) := by
  have h1 := set_perm x (l.set i (l.getD j dC)) j (by rw [List.length_set]; exact hj)
  rw [getD_ne hi hij] at h1
  have h2 := set_perm (l.getD j dC) l i hi
  have h3 := set_perm x l i hi
  generalize l.getD i dC = li at *
  generalize l.getD j dC = lj at *
  have h4 : (li :: lj :: (l.set i lj).set j x).Perm (li :: lj :: l.set i x) :=
    ((h1.cons li).trans ((List.Perm.swap ..).trans ((h2.cons x).trans ((List.Perm.swap ..).trans ((h3.symm.cons lj).trans (List.Perm.swap ..))))))
  exact h4.cons_inv.cons_inv

inductive Desc (st : Nat) : Nat → Prop
  | refl : Desc st st
  | step (k : Nat) : 0 < k → Desc st ((k - 1) / 2) → Desc st k

theorem Desc.le {st k : Nat} (h : Desc st k) : st ≤ k := by
  induction h with
  | refl => exact Nat.le_refl _
  | step k h0 _ ih => omega

theorem up_heap {lt : Cell → Cell → Bool} (T : Tot lt) {st : Nat} : ∀ (n pos : Nat) (l : List Cell), l.length - pos = n → pos < l.length → Desc st pos → HF lt (st + 1) l → (st < pos → HF lt st l) →
    Desc st (up lt pos l).1 ∧ (up lt pos l).1 < l.length ∧ l.length ≤ 2 * (up lt pos l).1 + 1 ∧ HF lt st (up lt pos l).2 ∧ ∀ x, ((up lt pos l).2.set (up lt pos l).1 x).Perm (l.set pos x) := by
  intro n
  induction n using Nat.strongRecOn with
  | ind n ih =>
    intro pos l hn hp hd h1 h2
    rw [up]
    have hst := hd.le
    split
    · rename_i hc
      have hk := kid_lt (lt := lt) hc
      have hkk : kid lt l pos = 2 * pos + 1 ∨ kid lt l pos = 2 * pos + 2 := by unfold kid; split <;> omega
      have hmin : ∀ k, (k = 2 * pos + 1 ∨ k = 2 * pos + 2) → k < l.length → lt (l.getD k dC) (l.getD (kid lt l pos) dC) = false := by
        intro k hk1 hk2
        unfold kid
        split
        · rename_i hh
          rcases hk1 with rfl | rfl
          · exact hh.2
          · exact T.irr _
        · rename_i hh
          rcases hk1 with rfl | rfl
          · exact T.irr _
          · refine T.asym _ _ ?_
            cases hq : lt (l.getD (2 * pos + 1) dC) (l.getD (2 * pos + 2) dC) with
            | true => rfl
            | false => exact absurd ⟨hk2, hq⟩ hh
      generalize kid lt l pos = kd at *
      have hHF : HF lt st (l.set pos (l.getD kd dC)) := by
        intro q k hq hqk hkl
        rw [List.length_set] at hkl
        by_cases e1 : q = pos
        · subst e1
          rw [getD_ne hp (by omega), getD_set2 _ _ _ _ hp, if_pos rfl]
          exact hmin k hqk hkl
        · rw [getD_ne (k := q) hp (by omega)]
          by_cases e2 : k = pos
          · subst e2
            rw [getD_set2 _ _ _ _ hp, if_pos rfl]
            have hh := h2 (by omega)
            exact T.trans _ _ _ (hh q k hq hqk hkl) (hh k kd (by omega) hkk hk.2)
          · rw [getD_ne hp (by omega)]
            by_cases e3 : q = st
            · exact h2 (by omega) q k hq hqk hkl
            · exact h1 q k (by omega) hqk hkl
      have hl : (l.set pos (l.getD kd dC)).length = l.length := List.length_set ..
      have := ih ((l.set pos (l.getD kd dC)).length - kd) (by rw [hl]; omega) kd (l.set pos (l.getD kd dC)) rfl (by rw [hl]; exact hk.2)
        (.step kd (by omega) (by rw [show (kd - 1) / 2 = pos from by omega]; exact hd)) (fun q k hq => hHF q k (by omega)) (fun _ => hHF)
      rw [hl] at this
      refine ⟨this.1, this.2.1, this.2.2.1, this.2.2.2.1, fun x => (this.2.2.2.2 x).trans (swap_perm hp hk.2 (by omega))⟩
    · rename_i hc
      refine ⟨hd, hp, by omega, ?_, fun _ => .rfl⟩
      intro q k hq hqk hkl
      have hkl' : k < l.length := hkl
      by_cases e3 : q = st
      · by_cases e4 : st = pos
        · omega
        · exact h2 (by omega) q k hq hqk hkl
      · exact h1 q k (by omega) hqk hkl

theorem dn_heap {lt : Cell → Cell → Bool} (T : Tot lt) {st : Nat} {x : Cell} : ∀ (pos : Nat) (l : List Cell), Desc st pos → pos < l.length →
    (∀ q k, st ≤ q → q ≠ pos → k ≠ pos → (k = 2 * q + 1 ∨ k = 2 * q + 2) → k < l.length → lt (l.getD k dC) (l.getD q dC) = false) →
    (∀ k, (k = 2 * pos + 1 ∨ k = 2 * pos + 2) → k < l.length → lt (l.getD k dC) x = false) →
    (st < pos → ∀ k, (k = 2 * pos + 1 ∨ k = 2 * pos + 2) → k < l.length → lt (l.getD k dC) (l.getD ((pos - 1) / 2) dC) = false) →
    HF lt st (dn lt x st pos l) ∧ (dn lt x st pos l).Perm (l.set pos x) := by
  intro pos
  induction pos using Nat.strongRecOn with
  | ind pos ih =>
    intro l hd hp ha hb hc
    have last : (st < pos → lt x (l.getD ((pos - 1) / 2) dC) = false) → HF lt st (l.set pos x) := by
      intro hlast q k hq hqk hkl
      rw [List.length_set] at hkl
      by_cases e1 : q = pos
      · subst e1
        rw [getD_ne hp (by omega), getD_set2 _ _ _ _ hp, if_pos rfl]
        exact hb k hqk hkl
      · rw [getD_ne (k := q) hp (by omega)]
        by_cases e2 : k = pos
        · subst e2
          rw [getD_set2 _ _ _ _ hp, if_pos rfl]
          have e : (k - 1) / 2 = q := by omega
          rw [e] at hlast
          exact hlast (by omega)
        · rw [getD_ne hp (by omega)]
          exact ha q k hq e1 e2 hqk hkl
    rw [dn]
    split
    · rename_i hlt
      have hdq : Desc st ((pos - 1) / 2) := by
        cases hd with
        | refl => omega
        | step _ _ h => exact h
      have hqs := hdq.le
      have hqp : (pos - 1) / 2 < pos := by omega
      split
      · rename_i hx
        have he : pos = 2 * ((pos - 1) / 2) + 1 ∨ pos = 2 * ((pos - 1) / 2) + 2 := by omega
        generalize (pos - 1) / 2 = q at *
        have hxq : lt (l.getD q dC) x = false := T.asym _ _ hx
        have hql : q < l.length := by omega
        have hl : (l.set pos (l.getD q dC)).length = l.length := List.length_set ..
        have gp : (l.set pos (l.getD q dC)).getD pos dC = l.getD q dC := by rw [getD_set2 _ _ _ _ hp, if_pos rfl]
        have := ih q (by omega) (l.set pos (l.getD q dC)) hdq (by rw [hl]; exact hql) ?_ ?_ ?_
        · exact ⟨this.1, this.2.trans (swap_perm hp hql (by omega))⟩
        · intro q' k hq' n1 n2 hqk hkl
          rw [hl] at hkl
          by_cases e1 : q' = pos
          · subst e1
            rw [gp, getD_ne hp (by omega)]
            exact hc hlt k hqk hkl
          · rw [getD_ne (k := q') hp (by omega), getD_ne hp (by omega)]
            exact ha q' k hq' e1 (by omega) hqk hkl
        · intro k hqk hkl
          rw [hl] at hkl
          by_cases e1 : k = pos
          · subst e1; rw [gp]; exact hxq
          · rw [getD_ne hp (by omega)]
            exact T.trans _ _ _ hxq (ha q k hqs (by omega) e1 hqk hkl)
        · intro hsq k hqk hkl
          rw [hl] at hkl
          have hdq' : Desc st ((q - 1) / 2) := by
            cases hdq with
            | refl => omega
            | step _ _ h => exact h
          have hqs' := hdq'.le
          rw [getD_ne (k := (q - 1) / 2) hp (by omega)]
          have h1 := ha ((q - 1) / 2) q hqs' (by omega) (by omega) (by omega) hql
          by_cases e1 : k = pos
          · subst e1; rw [gp]; exact h1
          · rw [getD_ne hp (by omega)]
            exact T.trans _ _ _ h1 (ha q k hqs (by omega) e1 hqk hkl)
      · rename_i hx
        exact ⟨last (fun _ => by simpa using hx), .rfl⟩
    · rename_i hlt
      exact ⟨last (fun h => absurd h hlt), .rfl⟩

theorem set_self {l : List Cell} {i : Nat} (hi : i < l.length) : l.set i (l.getD i dC) = l := by
  rw [List.getD_eq_getElem?_getD, List.getElem?_eq_getElem hi]
  exact List.set_getElem_self hi

theorem siftup_heap {lt : Cell → Cell → Bool} (T : Tot lt) {pos : Nat} {l : List Cell} (hp : pos < l.length) (h : HF lt (pos + 1) l) : HF lt pos (siftup lt pos l) ∧ (siftup lt pos l).Perm l := by
  obtain ⟨a1, a2, a3, a4, a5⟩ := up_heap T (st := pos) _ pos l rfl hp .refl h (fun h => absurd h (Nat.lt_irrefl _))
  have hl := up_length lt _ pos l rfl
  unfold siftup
  generalize (up lt pos l).2 = l2 at *
  generalize (up lt pos l).1 = p at *
  have := dn_heap T (x := l.getD pos dC) p (l2.set p (l.getD pos dC)) a1 (by rw [List.length_set]; omega) ?_ ?_ ?_
  · refine ⟨this.1, this.2.trans ?_⟩
    rw [List.set_set]
    have h5 := a5 (l.getD pos dC)
    rw [set_self hp] at h5
    exact h5
  · intro q k hq n1 n2 hqk hkl
    rw [List.length_set] at hkl
    rw [getD_ne (by omega) (by omega), getD_ne (by omega) (by omega)]
    exact a4 q k hq hqk hkl
  · intro k hk hkl; rw [List.length_set] at hkl; omega
  · intro _ k hk hkl; rw [List.length_set] at hkl; omega

theorem fyL_heap {lt : Cell → Cell → Bool} (T : Tot lt) : ∀ (i : Nat) (l : List Cell), i ≤ l.length → HF lt i l → HF lt 0 (fyL lt i l) ∧ (fyL lt i l).Perm l := by
  intro i
  induction i with
  | zero => intro l _ h; exact ⟨h, .rfl⟩
  | succ i ih =>
    intro l hi h
    have h1 := siftup_heap T (by omega : i < l.length) h
    have h2 := ih (siftup lt i l) (by rw [siftup_length]; omega) h1.1
    exact ⟨h2.1, h2.2.trans h1.2⟩

theorem heapify_heap {lt : Cell → Cell → Bool} (T : Tot lt) (l : List Cell) : HF lt 0 (fyL lt (l.length / 2) l) ∧ (fyL lt (l.length / 2) l).Perm l :=
  fyL_heap T _ l (by omega) (fun q k hq hk hkl => by omega)

theorem root_le {lt : Cell → Cell → Bool} (T : Tot lt) {l : List Cell} (h : HF lt 0 l) : ∀ k, k < l.length → lt (l.getD k dC) (l.getD 0 dC) = false := by
  intro k
  induction k using Nat.strongRecOn with
  | ind k ih =>
    intro hk
    by_cases e : k = 0
    · subst e; exact T.irr _
    · exact T.trans _ _ _ (ih ((k - 1) / 2) (by omega) (by omega)) (h ((k - 1) / 2) k (by omega) (by omega) hk)
theorem root_le' {lt : Cell → Cell → Bool} (T : Tot lt) {l : List Cell} (h : HF lt 0 l) (c : Cell) (hc : c ∈ l) : lt c (l.getD 0 dC) = false := by
  obtain ⟨k, hk, rfl⟩ := List.mem_iff_getElem.mp hc
  have := root_le T h k hk
  have e : l.getD k dC = l[k] := by rw [List.getD_eq_getElem?_getD, List.getElem?_eq_getElem hk]; rfl
  rw [e] at this
  exact this

theorem replace_heap {lt : Cell → Cell → Bool} (T : Tot lt) {r x : Cell} {t : List Cell} (h : HF lt 0 (r :: t)) : HF lt 0 (siftup lt 0 ((r :: t).set 0 x)) ∧ (siftup lt 0 ((r :: t).set 0 x)).Perm (x :: t) := by
  have := siftup_heap T (pos := 0) (l := (r :: t).set 0 x) (by simp) (fun q k hq hk hkl => by
    rw [List.length_set] at hkl
    rw [getD_ne (by simp) (by omega), getD_ne (by simp) (by omega)]
    exact h q k (by omega) hk hkl)
  exact this

theorem pop_heap {lt : Cell → Cell → Bool} (T : Tot lt) {r : Cell} {t : List Cell} (h : HF lt 0 (r :: t)) : HF lt 0 (popL lt (r :: t)) ∧ (popL lt (r :: t)).Perm t := by
  unfold popL
  split
  · rename_i hl
    have : t = [] := List.length_eq_zero_iff.mp (by simp at hl; exact List.length_eq_zero_iff.mpr hl)
    subst this
    exact ⟨fun q k _ _ hk => by simp at hk, .rfl⟩
  · rename_i hl
    obtain ⟨u, y, rfl⟩ : ∃ u y, t = u ++ [y] := by
      have hne : t ≠ [] := by intro e; subst e; simp at hl
      exact ⟨t.dropLast, t.getLast hne, (List.dropLast_concat_getLast hne).symm⟩
    have e1 : (r :: (u ++ [y])).dropLast = r :: u := by
      rw [show r :: (u ++ [y]) = (r :: u) ++ [y] from rfl, List.dropLast_concat]
    have e2 : (r :: (u ++ [y])).getD ((r :: (u ++ [y])).length - 1) dC = y := by
      rw [show r :: (u ++ [y]) = (r :: u) ++ [y] from rfl]
      simp
    rw [e1, e2]
    have h' : HF lt 0 (r :: u) := by
      intro q k hq hk hkl
      have hkl2 : k < (r :: (u ++ [y])).length := by simp at hkl ⊢; omega
      have := h q k hq hk hkl2
      have g : ∀ j, j < (r :: u).length → (r :: (u ++ [y])).getD j dC = (r :: u).getD j dC := by
        intro j hj
        rw [show r :: (u ++ [y]) = (r :: u) ++ [y] from rfl, List.getD_eq_getElem?_getD, List.getElem?_append_left hj, List.getD_eq_getElem?_getD]
      rw [g k hkl, g q (by omega)] at this
      exact this
    have := replace_heap T (x := y) h'
    refine ⟨this.1, this.2.trans ?_⟩
    exact (List.perm_append_comm (l₁ := [y]) (l₂ := u))
end Mine

namespace Mine

def Cell.pair (c : Cell) : Int × Int := (c.num, c.plc)

/-- what a turn asks of the word P, and gives -/
def StepOk (lt : Cell → Cell → Bool) (sg : Int) (rs : List RowD) (P : List Cell → List Int → List Cell → Prop) (h : List Cell) (left : List Int) (tl : List Cell) : Prop :=
  0 < h.length ∧ h.length < 50 ∧ left.length = rs.length ∧ ∃ p : Nat, (h.getD 0 dC).plc = (p : Int) ∧ p < rs.length ∧ (∀ x ∈ left, 0 ≤ x ∧ x < 100) ∧ (0 ≤ (h.getD 0 dC).num ∧ (h.getD 0 dC).num < 2 ^ 30) ∧
    (0 < left.getD p 0 - 1 → ∀ a, P (siftup lt 0 (h.set 0 ⟨a, (h.getD 0 dC).num + sg * (rs.getD p dR).step, p⟩)) (left.set p (left.getD p 0 - 1)) (tl ++ [h.getD 0 dC])) ∧
    (¬ 0 < left.getD p 0 - 1 → P (popL lt h) (left.set p (left.getD p 0 - 1)) (tl ++ [h.getD 0 dC]))

theorem ahead_core {gap step count k : Int} (hs : 0 < step) (hc : 1 ≤ count) (hk0 : 0 ≤ k) (hk1 : k ≤ count) (h1 : 0 < k → (k - 1) * step < gap) (h2 : k < count → gap ≤ k * step) :
    (if 0 < gap then (if (gap + step - 1).fdiv step < count then (gap + step - 1).fdiv step else count) else 0) = k := by
  rw [Int.fdiv_eq_ediv_of_nonneg _ (by omega)]
  by_cases hg : 0 < gap
  · rw [if_pos hg]
    have hkp : 0 < k := by
      rcases Int.lt_or_le 0 k with h | h
      · exact h
      · have e : k = 0 := by omega
        subst e
        have := h2 (by omega)
        omega
    have hge : k ≤ (gap + step - 1) / step := by
      rw [Int.le_ediv_iff_mul_le hs]
      have := h1 hkp
      rw [Int.sub_mul] at this
      omega
    by_cases hkc : k < count
    · have hle : (gap + step - 1) / step ≤ k := by
        have h3 := h2 hkc
        have : (gap + step - 1) / step < k + 1 := by
          rw [Int.ediv_lt_iff_lt_mul hs, Int.add_mul]
          omega
        omega
      have e : (gap + step - 1) / step = k := by omega
      rw [e, if_pos hkc]
    · rw [if_neg (by omega)]; omega
  · rw [if_neg hg]
    rcases Int.lt_or_le 0 k with h | h
    · have h3 := h1 h
      have : 0 ≤ (k - 1) * step := Int.mul_nonneg (by omega) (by omega)
      omega
    · omega

def ltU (up : Bool) : Cell → Cell → Bool := if up then ltC else gtC
def sgU (up : Bool) : Int := if up then 1 else -1
def item (up : Bool) (r : RowD) (k : Int) : Int := r.first + sgU up * (k * r.step)
theorem tot_U (up : Bool) : Tot (ltU up) := by cases up; exact tot_gt; exact tot_lt
theorem ltU_true {up : Bool} {a b : Cell} : ltU up a b = true ↔ (if up then (a.num < b.num ∨ (a.num = b.num ∧ a.plc < b.plc)) else (b.num < a.num ∨ (b.num = a.num ∧ b.plc < a.plc))) := by
  cases up
  · exact ltC_true
  · exact ltC_true
theorem ltU_false {up : Bool} {a b : Cell} : ltU up a b = false ↔ (if up then (b.num < a.num ∨ (b.num = a.num ∧ b.plc ≤ a.plc)) else (a.num < b.num ∨ (a.num = b.num ∧ a.plc ≤ b.plc))) := by
  cases up
  · exact ltC_false
  · exact ltC_false

theorem aheadR_eq {up : Bool} {num plc o : Int} {r : RowD} {k : Int} {a a' : Addr} (hs : 0 < r.step) (hc : 1 ≤ r.count) (hk0 : 0 ≤ k) (hk1 : k ≤ r.count)
    (h1 : 0 < k → ltU up ⟨a, item up r (k - 1), o⟩ ⟨a', num, plc⟩ = true) (h2 : k < r.count → ltU up ⟨a, item up r k, o⟩ ⟨a', num, plc⟩ = false) : aheadR up num plc o r = k := by
  unfold aheadR
  refine ahead_core hs hc hk0 hk1 (fun h => ?_) (fun h => ?_)
  · have h3 := h1 h
    rw [ltU_true] at h3
    cases up
    · simp only [Bool.false_eq_true, if_false, item, sgU] at h3 ⊢
      generalize (k - 1) * r.step = z at *
      split <;> omega
    · simp only [if_true, item, sgU] at h3 ⊢
      generalize (k - 1) * r.step = z at *
      split <;> omega
  · have h3 := h2 h
    rw [ltU_false] at h3
    cases up
    · simp only [Bool.false_eq_true, if_false, item, sgU] at h3 ⊢
      generalize k * r.step = z at *
      split <;> omega
    · simp only [if_true, item, sgU] at h3 ⊢
      generalize k * r.step = z at *
      split <;> omega

theorem sum_take (l : List Int) : ∀ i, i < l.length → (l.take (i + 1)).sum = (l.take i).sum + l.getD i 0 := by
  induction l with
  | nil => intro i hi; simp at hi
  | cons a l ih =>
    intro i hi
    cases i with
    | zero => simp
    | succ i =>
      have := ih i (by simpa using hi)
      simp only [List.take_succ_cons, List.sum_cons, List.getD_cons_succ] at this ⊢
      omega
theorem sum_set (l : List Int) (v : Int) : ∀ i, i < l.length → (l.set i v).sum = l.sum - l.getD i 0 + v := by
  induction l with
  | nil => intro i hi; simp at hi
  | cons a l ih =>
    intro i hi
    cases i with
    | zero => simp; omega
    | succ i =>
      have := ih i (by simpa using hi)
      simp only [List.set_cons_succ, List.sum_cons, List.getD_cons_succ] at this ⊢
      omega
theorem sum_pos (l : List Int) (h : 0 < l.sum) : ∃ j, j < l.length ∧ 0 < l.getD j 0 := by
  induction l with
  | nil => simp at h
  | cons a l ih =>
    by_cases ha : 0 < a
    · exact ⟨0, by simp, by simpa using ha⟩
    · obtain ⟨j, h1, h2⟩ := ih (by simp at h; omega)
      exact ⟨j + 1, by simpa using h1, by simpa using h2⟩
theorem sum_zero (l : List Int) (h : l.sum = 0) (hn : ∀ j, j < l.length → 0 ≤ l.getD j 0) : ∀ j, j < l.length → l.getD j 0 = 0 := by
  have nn : ∀ m : List Int, (∀ j, j < m.length → 0 ≤ m.getD j 0) → 0 ≤ m.sum := by
    intro m
    induction m with
    | nil => intro _; simp
    | cons a m ih =>
      intro hm
      have h1 := hm 0 (by simp)
      have h2 := ih (fun j hj => by have := hm (j + 1) (by simpa using hj); simpa using this)
      simp only [List.getD_cons_zero] at h1
      simp only [List.sum_cons]; omega
  induction l with
  | nil => intro j hj; simp at hj
  | cons a l ih =>
    have h1 := hn 0 (by simp)
    have h2' : ∀ j, j < l.length → 0 ≤ l.getD j 0 := fun j hj => by have := hn (j + 1) (by simpa using hj); simpa using this
    have h2 := nn l h2'
    simp only [List.getD_cons_zero] at h1
    simp only [List.sum_cons] at h
    intro j hj
    cases j with
    | zero => simp only [List.getD_cons_zero]; omega
    | succ j =>
      simp only [List.getD_cons_succ]
      exact ih (by omega) h2' j (by simpa using hj)

theorem getDi_set (l : List Int) (i k : Nat) (x : Int) (hi : i < l.length) : (l.set i x).getD k 0 = if i = k then x else l.getD k 0 := by
  rw [List.getD_eq_getElem?_getD, List.getElem?_set]
  split
  · subst_vars; simp
  · rw [List.getD_eq_getElem?_getD]

/-- what is asked of the item that goes out at the turn t -/
def Good (up : Bool) (rs : List RowD) (t : Nat) (c : Cell) : Prop :=
  ∃ p : Nat, c.plc = (p : Int) ∧ p < rs.length ∧ (∃ k : Int, 0 ≤ k ∧ k < (rs.getD p dR).count ∧ c.num = item up (rs.getD p dR) k) ∧ aheadL up c.num c.plc rs rs.length = (t : Int)

structure Inv (up : Bool) (rs : List RowD) (T : Nat) (h : List Cell) (left : List Int) (tl : List Cell) : Prop where
  heap : HF (ltU up) 0 h
  len : left.length = rs.length
  size : h.length ≤ rs.length
  bnd : ∀ j, j < rs.length → 0 ≤ left.getD j 0 ∧ left.getD j 0 ≤ (rs.getD j dR).count
  mem : ∀ c ∈ h, ∃ j : Nat, j < rs.length ∧ c.plc = (j : Int) ∧ 0 < left.getD j 0 ∧ c.num = item up (rs.getD j dR) ((rs.getD j dR).count - left.getD j 0)
  all : ∀ j, j < rs.length → 0 < left.getD j 0 → ∃ c ∈ h, c.plc = (j : Int)
  nodup : (h.map (·.plc)).Nodup
  srt : ∀ j, j < rs.length → left.getD j 0 < (rs.getD j dR).count → ∀ c ∈ h, ltU up ⟨0, item up (rs.getD j dR) ((rs.getD j dR).count - left.getD j 0 - 1), j⟩ c = true
  sum : left.sum + (tl.length : Int) = T
  good : ∀ t c, tl[t]? = some c → Good up rs t c

/-- the rows as they must be -/
def RowsOk (up : Bool) (rs : List RowD) : Prop := ∀ r ∈ rs, 0 < r.step ∧ 1 ≤ r.count ∧ r.count ≤ 4 ∧ ∀ k, 0 ≤ k → k < r.count → 0 ≤ item up r k ∧ item up r k < 2 ^ 30

theorem item_succ {up : Bool} {r : RowD} {k : Int} : item up r k + sgU up * r.step = item up r (k + 1) := by
  unfold item
  rw [Int.add_mul, Int.mul_add, Int.one_mul]; omega

section
variable {up : Bool} {rs : List RowD} {T : Nat} {h : List Cell} {left : List Int} {tl : List Cell}

theorem counts_getD {j : Nat} (hj : j < rs.length) : (rs.map (·.count)).getD j 0 = (rs.getD j dR).count := by
  simp [List.getD_eq_getElem?_getD, hj]

theorem ahead_sum (hO : RowsOk up rs) (I : Inv up rs T h left tl) {r : Cell} {t : List Cell} (hh : h = r :: t) :
    ∀ i, i ≤ rs.length → aheadL up r.num r.plc rs i = ((rs.map (·.count)).take i).sum - (left.take i).sum := by
  intro i
  induction i with
  | zero => intro _; simp [aheadL]
  | succ i ih =>
    intro hi
    rw [aheadL, ih (by omega), sum_take _ i (by simp; omega), sum_take _ i (by rw [I.len]; omega), counts_getD (by omega)]
    have hb := I.bnd i (by omega)
    have ho := hO _ (mem_getD (by omega : i < rs.length))
    have := aheadR_eq (up := up) (num := r.num) (plc := r.plc) (o := i) (r := rs.getD i dR) (k := (rs.getD i dR).count - left.getD i 0) (a := 0) (a' := r.ad) ho.1 ho.2.1 (by omega) (by omega)
      (fun hk => I.srt i (by omega) (by omega) r (by rw [hh]; exact .head _))
      (fun hk => by
        obtain ⟨c, hc, hcp⟩ := I.all i (by omega) (by omega)
        obtain ⟨j, hj, hcj, _, hcn⟩ := I.mem c hc
        have e : j = i := by omega
        subst e
        have hle := root_le' (tot_U up) I.heap c hc
        rw [hh] at hle
        rw [ltU_false] at hle ⊢
        simp only [List.getD_cons_zero] at hle
        rw [hcn, hcp] at hle
        exact hle)
    rw [this]; omega

theorem inv_step (hO : RowsOk up rs) (hT : (rs.map (·.count)).sum = (T : Int)) (hlen : rs.length < 50) (I : Inv up rs T h left tl) (ht : tl.length < T) : StepOk (ltU up) (sgU up) rs (Inv up rs T) h left tl := by
  have hsum := I.sum
  obtain ⟨j0, hj0, hj1⟩ := sum_pos left (by omega)
  obtain ⟨c0, hc0, _⟩ := I.all j0 (by rw [← I.len]; exact hj0) hj1
  obtain ⟨r, t, hh⟩ : ∃ r t, h = r :: t := by
    cases h with
    | nil => cases hc0
    | cons r t => exact ⟨r, t, rfl⟩
  have hr0 : h.getD 0 dC = r := by rw [hh]; rfl
  have hrm : r ∈ h := by rw [hh]; exact .head _
  obtain ⟨p, hp, hrp, hlp, hrn⟩ := I.mem r hrm
  have hbp := I.bnd p hp
  have hop := hO _ (mem_getD hp)
  have hitem := hop.2.2.2 ((rs.getD p dR).count - left.getD p 0) (by omega) (by omega)
  rw [← hrn] at hitem
  have hleft : ∀ k, k < rs.length → k ≠ p → (left.set p (left.getD p 0 - 1)).getD k 0 = left.getD k 0 := fun k hk hne => by
    rw [getDi_set _ _ _ _ (by rw [I.len]; exact hp), if_neg (by omega)]
  have hleftp : (left.set p (left.getD p 0 - 1)).getD p 0 = left.getD p 0 - 1 := by
    rw [getDi_set _ _ _ _ (by rw [I.len]; exact hp), if_pos rfl]
  have hnd := I.nodup
  rw [hh, List.map_cons, List.nodup_cons] at hnd
  have htp : ∀ c ∈ t, c.plc ≠ r.plc := fun c hc e => hnd.1 (List.mem_map.mpr ⟨c, hc, e⟩)
  have hroot : ∀ c ∈ t, ltU up r c = true := by
    intro c hc
    have h1 := root_le' (tot_U up) I.heap c (by rw [hh]; exact .tail _ hc)
    rw [hr0] at h1
    have h2 := htp c hc
    rw [ltU_false] at h1
    rw [ltU_true]
    cases up
    · simp only [Bool.false_eq_true, if_false] at h1 ⊢; omega
    · simp only [if_true] at h1 ⊢; omega
  have hgood : ∀ t' c, (tl ++ [r])[t']? = some c → Good up rs t' c := by
    intro t' c hc
    rcases Nat.lt_or_ge t' tl.length with hlt | hge
    · rw [List.getElem?_append_left hlt] at hc
      exact I.good t' c hc
    · rw [List.getElem?_append_right hge] at hc
      have e : t' = tl.length := by
        rcases Nat.lt_or_ge (t' - tl.length) 1 with h1 | h1
        · omega
        · rw [List.getElem?_eq_none (by simpa using h1)] at hc; cases hc
      subst e
      simp only [Nat.sub_self, List.getElem?_cons_zero, Option.some.injEq] at hc
      subst hc
      refine ⟨p, hrp, hp, ⟨_, by omega, by omega, hrn⟩, ?_⟩
      rw [ahead_sum hO I hh rs.length (Nat.le_refl _)]
      have e1 : (rs.map (·.count)).take rs.length = rs.map (·.count) := List.take_of_length_le (by simp)
      have e2 : left.take rs.length = left := List.take_of_length_le (by rw [I.len]; exact Nat.le_refl _)
      rw [e1, e2, hT]; omega
  have hbnd' : ∀ j, j < rs.length → 0 ≤ (left.set p (left.getD p 0 - 1)).getD j 0 ∧ (left.set p (left.getD p 0 - 1)).getD j 0 ≤ (rs.getD j dR).count := by
    intro j hj
    by_cases e : j = p
    · subst e; rw [hleftp]; omega
    · rw [hleft j hj e]; exact I.bnd j hj
  have hsum' : (left.set p (left.getD p 0 - 1)).sum + ((tl ++ [r]).length : Int) = T := by
    rw [sum_set _ _ _ (by rw [I.len]; exact hp), List.length_append, List.length_singleton]; omega
  have hall' : ∀ j, j < rs.length → j ≠ p → 0 < left.getD j 0 → ∃ c ∈ t, c.plc = (j : Int) := by
    intro j hj hne hl
    obtain ⟨c, hc, hcp⟩ := I.all j hj hl
    rw [hh] at hc
    rcases List.mem_cons.mp hc with rfl | hc
    · omega
    · exact ⟨c, hc, hcp⟩
  have hmem' : ∀ c ∈ t, ∃ j : Nat, j < rs.length ∧ c.plc = (j : Int) ∧ 0 < (left.set p (left.getD p 0 - 1)).getD j 0 ∧ c.num = item up (rs.getD j dR) ((rs.getD j dR).count - (left.set p (left.getD p 0 - 1)).getD j 0) := by
    intro c hc
    obtain ⟨j, hj, hcp, hl, hn⟩ := I.mem c (by rw [hh]; exact .tail _ hc)
    have hne : j ≠ p := by intro e; subst e; exact htp c hc (by omega)
    rw [← hleft j hj hne] at hl hn
    exact ⟨j, hj, hcp, hl, hn⟩
  have hsrt' : ∀ j, j < rs.length → (left.set p (left.getD p 0 - 1)).getD j 0 < (rs.getD j dR).count → ∀ c ∈ t, ltU up ⟨0, item up (rs.getD j dR) ((rs.getD j dR).count - (left.set p (left.getD p 0 - 1)).getD j 0 - 1), j⟩ c = true := by
    intro j hj hl c hc
    by_cases e : j = p
    · subst e
      rw [hleftp, show (rs.getD j dR).count - (left.getD j 0 - 1) - 1 = (rs.getD j dR).count - left.getD j 0 from by omega, ← hrn, ← hrp]
      have := hroot c hc
      rw [ltU_true] at this ⊢
      exact this
    · rw [hleft j hj e] at hl ⊢
      exact I.srt j hj hl c (by rw [hh]; exact .tail _ hc)
  refine ⟨by rw [hh]; simp, by have := I.size; omega, I.len, p, by rw [hr0]; exact hrp, hp, ?_, by rw [hr0]; exact hitem, ?_, ?_⟩
  · intro x hx
    obtain ⟨j, hj, rfl⟩ := List.mem_iff_getElem.mp hx
    have hb := I.bnd j (by rw [← I.len]; exact hj)
    have ho := hO _ (mem_getD (by rw [← I.len]; exact hj : j < rs.length))
    rw [List.getD_eq_getElem?_getD, List.getElem?_eq_getElem hj] at hb
    simp only [Option.getD_some] at hb
    omega
  · intro hpos a
    rw [hr0]
    have hrep := replace_heap (tot_U up) (r := r) (t := t) (x := ⟨a, r.num + sgU up * (rs.getD p dR).step, p⟩) (by rw [← hh]; exact I.heap)
    rw [← hh] at hrep
    have hxn : r.num + sgU up * (rs.getD p dR).step = item up (rs.getD p dR) ((rs.getD p dR).count - (left.set p (left.getD p 0 - 1)).getD p 0) := by
      rw [hrn, item_succ, hleftp]; congr 1; omega
    have hrx : ltU up r ⟨a, r.num + sgU up * (rs.getD p dR).step, p⟩ = true := by
      have h1 := hop.1
      rw [ltU_true]
      cases up
      · simp only [Bool.false_eq_true, if_false, sgU]; omega
      · simp only [if_true, sgU]; omega
    refine ⟨hrep.1, by rw [List.length_set]; exact I.len, ?_, hbnd', ?_, ?_, ?_, ?_, hsum', hgood⟩
    · rw [hrep.2.length_eq]
      have := I.size; rw [hh] at this; exact this
    · intro c hc
      rcases List.mem_cons.mp (hrep.2.mem_iff.mp hc) with rfl | hc
      · exact ⟨p, hp, rfl, by rw [hleftp]; exact hpos, hxn⟩
      · exact hmem' c hc
    · intro j hj hl
      by_cases e : j = p
      · subst e; exact ⟨_, hrep.2.mem_iff.mpr (.head _), rfl⟩
      · rw [hleft j hj e] at hl
        obtain ⟨c, hc, hcp⟩ := hall' j hj e hl
        exact ⟨c, hrep.2.mem_iff.mpr (.tail _ hc), hcp⟩
    · rw [(hrep.2.map _).nodup_iff, List.map_cons, List.nodup_cons, show ((p : Nat) : Int) = r.plc from hrp.symm]
      exact hnd
    · intro j hj hl c hc
      rcases List.mem_cons.mp (hrep.2.mem_iff.mp hc) with rfl | hc
      · by_cases e : j = p
        · subst e
          rw [hleftp, show (rs.getD j dR).count - (left.getD j 0 - 1) - 1 = (rs.getD j dR).count - left.getD j 0 from by omega, ← hrn]
          rw [ltU_true] at hrx ⊢
          rw [hrp] at hrx
          exact hrx
        · rw [hleft j hj e] at hl ⊢
          have h1 := I.srt j hj hl r hrm
          rw [ltU_true] at h1 hrx ⊢
          cases up
          · simp only [Bool.false_eq_true, if_false] at h1 hrx ⊢; omega
          · simp only [if_true] at h1 hrx ⊢; omega
      · exact hsrt' j hj hl c hc
  · intro hpos
    rw [hr0]
    have hpop := pop_heap (tot_U up) (r := r) (t := t) (by rw [← hh]; exact I.heap)
    rw [← hh] at hpop
    refine ⟨hpop.1, by rw [List.length_set]; exact I.len, ?_, hbnd', ?_, ?_, ?_, ?_, hsum', hgood⟩
    · rw [hpop.2.length_eq]
      have := I.size; rw [hh] at this; simp at this; omega
    · intro c hc
      exact hmem' c (hpop.2.mem_iff.mp hc)
    · intro j hj hl
      by_cases e : j = p
      · subst e; rw [hleftp] at hl; exact absurd hl hpos
      · rw [hleft j hj e] at hl
        obtain ⟨c, hc, hcp⟩ := hall' j hj e hl
        exact ⟨c, hpop.2.mem_iff.mpr hc, hcp⟩
    · rw [(hpop.2.map _).nodup_iff]
      exact hnd.2
    · intro j hj hl c hc
      exact hsrt' j hj hl c (hpop.2.mem_iff.mp hc)

theorem inv_init (hO : RowsOk up rs) (hT : (rs.map (·.count)).sum = (T : Int)) (cs0 : List Cell) (hcs : cs0.map Cell.pair = (List.range rs.length).map (fun j => ((rs.getD j dR).first, (j : Int)))) :
    Inv up rs T (fyL (ltU up) (cs0.length / 2) cs0) (rs.map (·.count)) [] := by
  have hf := heapify_heap (tot_U up) cs0
  have hmem : ∀ c ∈ cs0, ∃ j : Nat, j < rs.length ∧ c.plc = (j : Int) ∧ c.num = (rs.getD j dR).first := by
    intro c hc
    have h1 : c.pair ∈ cs0.map Cell.pair := List.mem_map_of_mem hc
    rw [hcs] at h1
    obtain ⟨j, hj, e⟩ := List.mem_map.mp h1
    have e1 : ((rs.getD j dR).first, (j : Int)).1 = c.num := congrArg Prod.fst e
    have e2 : ((rs.getD j dR).first, (j : Int)).2 = c.plc := congrArg Prod.snd e
    exact ⟨j, List.mem_range.mp hj, e2.symm, e1.symm⟩
  have hl : cs0.length = rs.length := by simpa using congrArg List.length hcs
  have hplc : cs0.map (·.plc) = (List.range rs.length).map (fun j : Nat => (j : Int)) := by
    have := congrArg (List.map Prod.snd) hcs
    rw [List.map_map, List.map_map] at this
    exact this
  refine ⟨hf.1, by simp, by rw [hf.2.length_eq, hl]; exact Nat.le_refl _, ?_, ?_, ?_, ?_, ?_, by rw [hT]; simp, fun t c h => by simp at h⟩
  · intro j hj
    rw [counts_getD hj]
    have := hO _ (mem_getD hj)
    omega
  · intro c hc
    obtain ⟨j, hj, h1, h2⟩ := hmem c (hf.2.mem_iff.mp hc)
    refine ⟨j, hj, h1, ?_, ?_⟩
    · rw [counts_getD hj]
      have := hO _ (mem_getD hj)
      omega
    · rw [counts_getD hj, Int.sub_self, h2]
      unfold item
      rw [Int.zero_mul, Int.mul_zero, Int.add_zero]
  · intro j hj _
    have h1 : (j : Int) ∈ cs0.map (·.plc) := by rw [hplc]; exact List.mem_map.mpr ⟨j, List.mem_range.mpr hj, rfl⟩
    obtain ⟨c, hc, e⟩ := List.mem_map.mp h1
    exact ⟨c, hf.2.mem_iff.mpr hc, e⟩
  · rw [(hf.2.map _).nodup_iff, hplc]
    refine List.Pairwise.map _ ?_ (List.nodup_range (n := rs.length))
    intro a b hab e
    exact hab (by omega)
  · intro j hj hl
    rw [counts_getD hj] at hl
    omega

theorem inv_end (I : Inv up rs T h left tl) (ht : tl.length = T) : h = [] := by
  have h0 : left.sum = 0 := by have := I.sum; omega
  have hz := sum_zero left h0 (fun j hj => (I.bnd j (by rw [← I.len]; exact hj)).1)
  cases h with
  | nil => rfl
  | cons r t =>
    obtain ⟨j, hj, _, hl, _⟩ := I.mem r (.head _)
    have := hz j (by rw [I.len]; exact hj)
    omega
end
end Mine

namespace Mine

structure RowFact (b : Int) (up : Bool) (r : RowD) : Prop where
  size : r.size = 1 ∧ r.step = 16 ∨ r.size = 2 ∧ r.step = 256
  worth : 0 ≤ r.worth ∧ r.worth < r.step
  rest : (r.first - r.worth) % r.step = 0
  count : 1 ≤ r.count ∧ r.count ≤ 4
  bnd : if up then b ≤ r.first ∧ r.first < b + 256 else b - 256 < r.first ∧ r.first ≤ b

theorem mkRow_fact (b : Int) (up : Bool) (x : Int) (r : RowD) (h : r.num = mkRow b up x) : RowFact b up r := by
  have e6 : (10 ^ Int.toNat 6 : Int) = 1000000 := rfl
  obtain ⟨ad, first, step, count, worth, size⟩ := r
  unfold mkRow RowD.num at h
  rw [e6] at h
  have hr0 : 0 ≤ x.fmod 1000000 ∧ x.fmod 1000000 < 1000000 := by rw [Int.fmod_eq_emod_of_nonneg _ (by omega)]; omega
  generalize x.fmod 1000000 = rest at *
  have hs : rest.fmod 2 = 0 ∨ rest.fmod 2 = 1 := by rw [Int.fmod_eq_emod_of_nonneg _ (by omega)]; omega
  have hc : 0 ≤ (rest.fdiv 512).fmod 4 ∧ (rest.fdiv 512).fmod 4 < 4 := by rw [Int.fmod_eq_emod_of_nonneg _ (by omega)]; omega
  simp only [RowN.mk.injEq] at h
  obtain ⟨h1, h2, h3, h4, h5⟩ := h
  have hst : (size = 1 ∧ step = 16) ∨ (size = 2 ∧ step = 256) := by
    rcases hs with e | e
    · rw [e] at h2 h5
      exact .inl ⟨h5, h2⟩
    · rw [e] at h2 h5
      exact .inr ⟨h5, h2⟩
  rw [← h2] at h1 h4
  have hw : 0 ≤ worth ∧ worth < step := by
    rw [h4, Int.fmod_eq_emod_of_nonneg _ (by omega)]
    rcases hst with ⟨_, e⟩ | ⟨_, e⟩ <;> rw [e] <;> omega
  rw [← h4] at h1
  refine ⟨hst, hw, ?_, ?_, ?_⟩
  · show (first - worth) % step = 0
    cases up
    · simp only [Bool.false_eq_true, if_false] at h1
      rw [h1, Int.fmod_eq_emod_of_nonneg _ (by omega)]
      rcases hst with ⟨_, e⟩ | ⟨_, e⟩ <;> rw [e] <;> omega
    · simp only [if_true] at h1
      rw [h1, Int.fmod_eq_emod_of_nonneg _ (by omega)]
      rcases hst with ⟨_, e⟩ | ⟨_, e⟩ <;> rw [e] <;> omega
  · show 1 ≤ count ∧ count ≤ 4
    omega
  · show if up then b ≤ first ∧ first < b + 256 else b - 256 < first ∧ first ≤ b
    cases up
    · simp only [Bool.false_eq_true, if_false] at h1 ⊢
      rw [h1, Int.fmod_eq_emod_of_nonneg _ (by omega)]
      rcases hst with ⟨_, e⟩ | ⟨_, e⟩ <;> rw [e] <;> omega
    · simp only [if_true] at h1 ⊢
      rw [h1, Int.fmod_eq_emod_of_nonneg _ (by omega)]
      rcases hst with ⟨_, e⟩ | ⟨_, e⟩ <;> rw [e] <;> omega

theorem rows_fact {b : Int} {up : Bool} {rs : List RowD} {ys : List Int} (h : rs.map RowD.num = ys.map (mkRow b up)) : ∀ r ∈ rs, RowFact b up r := by
  intro r hr
  have h1 : r.num ∈ rs.map RowD.num := List.mem_map_of_mem hr
  rw [h] at h1
  obtain ⟨x, _, e⟩ := List.mem_map.mp h1
  exact mkRow_fact b up x r e.symm

theorem item_bnd {b : Int} {up : Bool} {r : RowD} (F : RowFact b up r) (hb0 : 0 ≤ b) (hb1 : b < 600000) (hb2 : up = false → 2000 ≤ b) {k : Int} (hk0 : 0 ≤ k) (hk1 : k < r.count) : 0 ≤ item up r k ∧ item up r k < 2 ^ 20 ∧ item up r k % r.step = r.worth := by
  have h1 := F.size; have h2 := F.worth; have h3 := F.rest; have h4 := F.count; have h5 := F.bnd
  obtain ⟨ad, first, step, count, worth, size⟩ := r
  simp only at h1 h2 h3 h4 h5 hk1
  unfold item sgU
  have hst : step = 16 ∨ step = 256 := by omega
  have hz0 : 0 ≤ k * step := Int.mul_nonneg hk0 (by omega)
  have hz1 : k * step ≤ 3 * 256 := Int.mul_le_mul (by omega) (by omega) (by omega) (by omega)
  have hz2 : k * step % step = 0 := Int.mul_emod_left k step
  clear h1 h4 hk0 hk1
  show 0 ≤ first + (if up then 1 else -1) * (k * step) ∧ first + (if up then 1 else -1) * (k * step) < 2 ^ 20 ∧ (first + (if up then 1 else -1) * (k * step)) % step = worth
  generalize k * step = z at *
  cases up
  · simp only [Bool.false_eq_true, if_false] at h5 ⊢
    have hb3 := hb2 rfl
    refine ⟨by omega, by omega, ?_⟩
    clear hb0 hb1 hb2 hb3 h5 hz0 hz1
    rcases hst with e | e <;> subst e <;> omega
  · simp only [if_true] at h5 ⊢
    refine ⟨by omega, by omega, ?_⟩
    clear hb0 hb1 hb2 h5 hz0 hz1
    rcases hst with e | e <;> subst e <;> omega

theorem rows_ok {b : Int} {up : Bool} {rs : List RowD} (h : ∀ r ∈ rs, RowFact b up r) (hb0 : 0 ≤ b) (hb1 : b < 600000) (hb2 : up = false → 2000 ≤ b) : RowsOk up rs := by
  intro r hr
  have F := h r hr
  have h1 := F.size; have h4 := F.count
  refine ⟨by omega, h4.1, h4.2, fun k hk0 hk1 => ?_⟩
  have := item_bnd F hb0 hb1 hb2 hk0 hk1
  omega

theorem first_bnd {b : Int} {up : Bool} {rs : List RowD} (h : ∀ r ∈ rs, RowFact b up r) (hb0 : 0 ≤ b) (hb1 : b < 600000) (hb2 : up = false → 2000 ≤ b) : ∀ r ∈ rs, 0 < r.step ∧ r.step ≤ 256 ∧ 0 ≤ r.first ∧ r.first < 2 ^ 30 := by
  intro r hr
  have F := h r hr
  have h1 := F.size; have h4 := F.count; have h5 := F.bnd
  cases up
  · simp only [Bool.false_eq_true, if_false] at h5
    have := hb2 rfl
    omega
  · simp only [if_true] at h5
    omega

theorem counts_sum {b : Int} {up : Bool} : ∀ {rs : List RowD}, (∀ r ∈ rs, RowFact b up r) → 0 ≤ (rs.map (·.count)).sum ∧ (rs.map (·.count)).sum ≤ 4 * (rs.length : Int) := by
  intro rs
  induction rs with
  | nil => intro _; simp
  | cons r rs ih =>
    intro h
    have h1 := (h r (.head _)).count
    have h2 := ih (fun q hq => h q (.tail _ hq))
    simp only [List.map_cons, List.sum_cons, List.length_cons]
    omega

theorem apN_fold (n : Nat) : (apN n).foldl (fun t o => t * 16 + o - 65) 0 = (n : Int) := by
  induction n using Nat.strongRecOn with
  | ind n ih =>
    rw [apN]
    split
    · subst_vars; rfl
    · rw [List.foldl_append, ih (n / 16) (by omega)]
      simp only [List.foldl_cons, List.foldl_nil]
      omega
theorem apN_nil {n : Nat} (h : apN n = []) : n = 0 := by
  rw [apN] at h
  split at h
  · assumption
  · simp at h
theorem apN_head (n : Nat) : (apN n)[0]? ≠ some 65 := by
  induction n using Nat.strongRecOn with
  | ind n ih =>
    rw [apN]
    split
    · simp
    · rename_i h0
      have h1 := ih (n / 16) (by omega)
      cases hq : apN (n / 16) with
      | nil =>
        have := apN_nil hq
        simp only [List.nil_append, List.getElem?_cons_zero]
        intro e
        have e2 := Option.some.inj e
        omega
      | cons a l =>
        rw [hq] at h1
        simpa using h1
theorem apN_range (n : Nat) : ∀ k ∈ apN n, 65 ≤ k ∧ k ≤ 80 := by
  induction n using Nat.strongRecOn with
  | ind n ih =>
    rw [apN]
    split
    · intro k hk; cases hk
    · intro k hk
      rcases List.mem_append.mp hk with hk | hk
      · exact ih (n / 16) (by omega) k hk
      · rw [List.mem_singleton.mp hk]; omega
theorem apN_last (n : Nat) : ∃ pre, [65] ++ apN n = pre ++ [65 + ((n % 16 : Nat) : Int)] := by
  rw [apN]
  split
  · subst_vars; exact ⟨[], rfl⟩
  · exact ⟨[65] ++ apN (n / 16), by rw [List.append_assoc]⟩
theorem apN_last2 (n : Nat) : ∃ pre, [65, 65] ++ apN n = pre ++ [65 + ((n / 16 % 16 : Nat) : Int), 65 + ((n % 16 : Nat) : Int)] := by
  rw [apN]
  split
  · subst_vars; exact ⟨[], rfl⟩
  · obtain ⟨p, hp⟩ := apN_last (n / 16)
    refine ⟨65 :: p, ?_⟩
    have : [65, 65] ++ (apN (n / 16) ++ [65 + ((n % 16 : Nat) : Int)]) = 65 :: (([65] ++ apN (n / 16)) ++ [65 + ((n % 16 : Nat) : Int)]) := by simp
    rw [this, hp]; simp

/-- the last letters of the word are the row's tail -/
theorem word_tail {n worth sz : Nat} (hs : sz = 1 ∧ n % 16 = worth ∨ sz = 2 ∧ n % 256 = worth) :
    ([65, 65] ++ apN n).drop (([65, 65] ++ apN n).length - sz) = ([65 + ((worth / 16 : Nat) : Int), 65 + ((worth % 16 : Nat) : Int)]).drop (2 - sz) := by
  obtain ⟨p, hp⟩ := apN_last2 n
  rw [hp]
  rcases hs with ⟨rfl, rfl⟩ | ⟨rfl, rfl⟩
  · rw [show (p ++ [65 + ((n / 16 % 16 : Nat) : Int), 65 + ((n % 16 : Nat) : Int)]).length - 1 = (p ++ [65 + ((n / 16 % 16 : Nat) : Int)]).length from by simp,
      show p ++ [65 + ((n / 16 % 16 : Nat) : Int), 65 + ((n % 16 : Nat) : Int)] = (p ++ [65 + ((n / 16 % 16 : Nat) : Int)]) ++ [65 + ((n % 16 : Nat) : Int)] from by simp]
    rw [List.drop_left]
    show _ = [65 + ((n % 16 % 16 : Nat) : Int)]
    rw [Nat.mod_mod]
  · rw [show (p ++ [65 + ((n / 16 % 16 : Nat) : Int), 65 + ((n % 16 : Nat) : Int)]).length - 2 = p.length from by simp, List.drop_left]
    show _ = [65 + ((n % 256 / 16 : Nat) : Int), 65 + ((n % 256 % 16 : Nat) : Int)]
    rw [show n % 256 / 16 = n / 16 % 16 from by omega, show n % 256 % 16 = n % 16 from by omega]

theorem in_items {up : Bool} {r : RowD} {c : Int} {k : Int} {K : Nat} (hK : r.count = (K : Int)) (hk0 : 0 ≤ k) (hk1 : k < r.count) (hc : c = item up r k) : ((List.range K).map (fun (j : Nat) => item up r (j : Int))).any (· == c) = true := by
  rw [List.any_eq_true]
  refine ⟨item up r k, List.mem_map.mpr ⟨k.toNat, List.mem_range.mpr (by omega), by rw [Int.toNat_of_nonneg hk0]⟩, by rw [hc]; simp⟩
end Mine

namespace Mine
theorem fillTo : (fun (_ : OpenLaw) (_ : Params → Frag) => True) PySem.Challenge.rw_mr0190_01 hd.heap_39 := by k_fill; trivial
local macro_rules | `(tactic| k_steps) => `(tactic| repeat' (first
  | (fail_if_success (with_reducible show wpAny _ _ (exec (Stmt.While _ _ _ _) _) _ _ _)); (fail_if_success (with_reducible show wpAny _ _ (exec (Stmt.For _ _ _ _ _) _) _ _ _)); (fail_if_success (with_reducible show wpAny _ _ (exec (Stmt.Assign _ (Expr.ListComp _ _ _ _) _) _) _ _ _)); (fail_if_success (with_reducible show LCg.CompSrc _ _ _ _ _ _ _ _ _ _ _ _ _ _)); (fail_if_success (with_reducible show wpAny _ _ (pyIter _) (fun _ _ => LoopAtV _ _ _ _ _ _ _ _ _ _ _) _ _)); (first | (k_unfold; (try dsimp only)) | (k_end; wrow_close) | walk1 | (dsimp only; walk1) | (leave1; walk_say "STEP leave1"; try dsimp only))
  | fail "no step"))

theorem off1_mem {D : Addr} {l : List (Addr × Obj)} (h : LCg.Off1 D l) : ∀ p ∈ l, p.1 ≠ D := by
  induction l with
  | nil => intro p hp; cases hp
  | cons a r ih =>
    intro p hp
    rcases List.mem_cons.mp hp with rfl | hp
    · exact h.1
    · exact ih h.2 p hp
theorem bears_cons {rest : List (Addr × Obj)} {a : Addr × Obj} {c : Cell} (hb : Bears rest c) : Bears (a :: rest) c := let ⟨t, u, n, h⟩ := hb; ⟨t, u, n, .tail _ h⟩
theorem name_obj {h₀ h : Heap} {L r : Addr} {o : Obj} {rest : List (Addr × Obj)} (_N : News h₀ L h ((r, o) :: rest)) : ∃ oc : Obj, oc = o := ⟨o, rfl⟩

theorem fyL_bears {rest : List (Addr × Obj)} {lt : Cell → Cell → Bool} : ∀ {i : Nat} {l : List Cell}, i ≤ l.length → (∀ c ∈ l, Bears rest c) → ∀ c ∈ fyL lt i l, Bears rest c := by
  intro i
  induction i with
  | zero => intro l _ hb; exact hb
  | succ i ih => intro l hi hb; exact ih (by rw [siftup_length]; omega) (siftup_bears (by omega) hb)

theorem led_a {a b c d : Addr × Obj} {l : List (Addr × Obj)} : ∀ p ∈ d :: a :: b :: c :: l, p ∈ a :: b :: c :: d :: l := by
  intro p hp
  simp only [List.mem_cons] at hp ⊢
  rcases hp with h | h | h | h | h <;> simp [h]
theorem led_b {a b c d : Addr × Obj} {l : List (Addr × Obj)} : ∀ p ∈ a :: b :: c :: d :: l, p ∈ d :: a :: b :: c :: l := by
  intro p hp
  simp only [List.mem_cons] at hp ⊢
  rcases hp with h | h | h | h | h <;> simp [h]
theorem ints_set {us : List Value} {xs : List Int} (h : IntsAre us xs) {t : Tok} {v : Int} : ∀ {i : Nat}, i < xs.length → IntsAre (us.set i (.int v t)) (xs.set i v) := by
  induction h with
  | nil => intro i hi; exact absurd hi (Nat.not_lt_zero _)
  | cons y u r ih =>
    intro i hi
    cases i with
    | zero => exact .cons _ _ r
    | succ i => exact .cons _ _ (ih (by simpa using hi))
theorem news_ints {h₀ h : Heap} {L D2 : Addr} {rest : List (Addr × Obj)} {us : List Value} {xs : List Int} {i k : Nat} {v : Int} {t : Tok} (N : News h₀ L h ((D2, listOf (us.set i (.int v t)).toArray k) :: rest)) (hus : IntsAre us xs) (hi : i < xs.length) :
    ∃ us2, IntsAre us2 (xs.set i v) ∧ News h₀ L h ((D2, listOf us2.toArray k) :: rest) := ⟨_, ints_set hus hi, N⟩
theorem led_c {x a b c d : Addr × Obj} {l : List (Addr × Obj)} : ∀ p ∈ a :: x :: b :: c :: d :: l, p ∈ x :: a :: b :: c :: d :: l := by
  intro p hp
  simp only [List.mem_cons] at hp ⊢
  rcases hp with h | h | h | h | h | h <;> simp [h]
theorem led_d {a b c d e : Addr × Obj} {l : List (Addr × Obj)} : ∀ p ∈ d :: a :: b :: c :: e :: l, p ∈ a :: b :: c :: d :: e :: l := by
  intro p hp
  simp only [List.mem_cons] at hp ⊢
  rcases hp with h | h | h | h | h | h <;> simp [h]
theorem led_e {a b c d : Addr × Obj} {l : List (Addr × Obj)} : ∀ p ∈ c :: a :: b :: d :: l, p ∈ a :: b :: c :: d :: l := by
  intro p hp
  simp only [List.mem_cons] at hp ⊢
  rcases hp with h | h | h | h | h <;> simp [h]
theorem bears_app2 {a b c d : Addr × Obj} {l l2 l3 : List (Addr × Obj)} {x : Cell} (hb : Bears l x) : Bears (a :: b :: c :: d :: (l ++ l2 ++ l3)) x := bears_cons (bears_cons (bears_cons (bears_cons (bears_app (bears_app hb)))))
theorem bears_app3 {a b c : Addr × Obj} {l l2 l3 : List (Addr × Obj)} {x : Cell} (hb : Bears l x) : Bears (a :: b :: c :: (l ++ l2 ++ l3)) x := bears_cons (bears_cons (bears_cons (bears_app (bears_app hb))))
theorem refs_snoc (l : List Cell) (c : Cell) : refs l ++ [ref c] = refs (l ++ [c]) := by simp [refs]
theorem name_tok {h₀ h : Heap} {L r : Addr} {x : Int} {t : Tok} {v : Value} {rest : List (Addr × Obj)} (N : News h₀ L h ((r, listOf #[.int x t, v] 0) :: rest)) : ∃ t', News h₀ L h ((r, listOf #[.int x t', v] 0) :: rest) := ⟨t, N⟩
theorem own_in {a b c d e : Addr × Obj} {l l2 own : List (Addr × Obj)} : ∀ p ∈ own, p ∈ c :: a :: b :: d :: e :: (l ++ l2 ++ own) := fun _ hp => .tail _ (.tail _ (.tail _ (.tail _ (.tail _ (List.mem_append.mpr (.inr hp))))))
theorem own_in4 {a b c d : Addr × Obj} {l l2 own : List (Addr × Obj)} : ∀ p ∈ own, p ∈ c :: a :: b :: d :: (l ++ l2 ++ own) := fun _ hp => .tail _ (.tail _ (.tail _ (.tail _ (List.mem_append.mpr (.inr hp)))))
theorem led_f {a b c d e : Addr × Obj} {l l2 own : List (Addr × Obj)} : ∀ p ∈ a :: c :: d :: e :: ((b :: l) ++ l2), p ∈ d :: a :: b :: c :: e :: (l ++ l2 ++ own) := by
  intro p hp
  simp only [List.mem_cons, List.mem_append] at hp ⊢
  rcases hp with h | h | h | h | (h | h) | h <;> simp [h]
theorem led_g {a c d e : Addr × Obj} {l l2 own : List (Addr × Obj)} : ∀ p ∈ a :: c :: d :: e :: (l ++ l2), p ∈ d :: a :: c :: e :: (l ++ l2 ++ own) := by
  intro p hp
  simp only [List.mem_cons, List.mem_append] at hp ⊢
  rcases hp with h | h | h | h | h | h <;> simp [h]
theorem popL_bears {rest : List (Addr × Obj)} {lt : Cell → Cell → Bool} {l : List Cell} (hl : 0 < l.length) (hb : ∀ c ∈ l, Bears rest c) : ∀ c ∈ popL lt l, Bears rest c := by
  unfold popL
  split
  · intro c hc; cases hc
  · refine siftup_bears ?_ (bears_set (bears_drop hb) (bears_at hb (by omega)))
    rw [List.length_set, List.length_dropLast]; omega
theorem led_h {x y a b d e : Addr × Obj} {l : List (Addr × Obj)} : ∀ p ∈ x :: d :: l, p ∈ x :: y :: a :: b :: d :: e :: l := by
  intro p hp
  simp only [List.mem_cons] at hp ⊢
  rcases hp with h | h | h <;> simp [h]
theorem td {prog : Program} {w : World} {mean : ExcName → Option Value} {mg mb : Str → Option Value} (ra : Addr) (rs : List RowD) (nr : Nat) (hlen : rs.length < 50) (T : Nat) (hT : (rs.map (·.count)).sum = (T : Int)) (hT2 : T < 500)
   (P : List Cell → List Int → List Cell → Prop) (hinit : ∀ cs0 : List Cell, cs0.map Cell.pair = (List.range rs.length).map (fun j => ((rs.getD j dR).first, (j : Int))) → P (fyL ltC (cs0.length / 2) cs0) (rs.map (·.count)) [])
   (hstep : ∀ h left tl, P h left tl → tl.length < T → StepOk ltC 1 rs P h left tl) (hend : ∀ h left tl, P h left tl → tl.length = T → h = []) :
   Con prog w mean mg mb 117 5 (fun news vs => vs = [.ref ra, .bool true] ∧ (ra, listOf (rrefs rs).toArray nr) ∈ news ∧ (∀ r ∈ rs, BearsR news r) ∧ ∀ p ∈ news, NF p.2)
     (fun news _ r news' => ∃ ea tl tls k ob left, r = .ref ea ∧ news' = (ea, listOf #[.ref tl, .bool true] 0) :: (tl, listOf (refs tls).toArray k) :: (ob ++ news) ∧ tls.length = T ∧ P [] left tls ∧ (∀ c ∈ tls, Bears ob c) ∧ ∀ p ∈ ob, NF p.2) := by
  unfold Con
  intro dp un gd cn cs a ccd cl outer A₀ base h₀ L m news s vs Q E B F X N TT hk hR hd hu hret
  obtain ⟨rfl, hra, hrs, hcls⟩ := hR
  refine wpAny_call ?_
  k_dflt (refine' code_defC ?k1 ?k2 ?k3 ?k4 ?k5 ?kA ?kF ?kK ?k6 ?k7 ?k8 ?k9 ?kB ?kD ?_ ?c2 ?c3 ?c4; (case kA => exact rfl); (case kF => exact rfl); (case kK => assumption); (case k1 => k_asm); (case k2 => k_asm); (case k3 => k_asm); (case k4 => k_asm); (case k5 => k_asm); (case k6 => k_is); (case k7 => k_is); (case k8 => ktr_room); (case k9 => exact BindsTo.of_eq rfl); (case kB => exact rfl); (case kD => decide +kernel); (case c2 => exact rfl); (case c3 => exact rfl); (case c4 => exact rfl); k_whole; intro g' L' h' tk' cells' FG' F' N' Y' B' X' T' l1; k_cells Y'; (try simp only [List.cons_append, List.nil_append] at N'); (try dsimp only); (try k_fold))
  obtain ⟨u0, F1⟩ := fr_ps [(Str.ofString "up", .bool true)] F' (by kst_all)
  clear F'
  dsimp only [kstB] at F1
  rename (Obj.data _ = Data.cell _) => hcell0
  obtain ⟨oc, hoc⟩ := name_obj N'
  subst hoc
  have hcell : oc.data = Data.cell (some (.ref ra)) := hcell0
  clear hcell0
  k_steps
  k_dflt (refine LCg.Assign_ListComp_U (F₀ := F1) (by rfl) (by with_unfolding_all rfl) (by with_unfolding_all rfl) (by decide) (by rfl) (by decide) (by rfl) (by rfl) (by rfl) ?_)
  k_steps
  refine len_any N' (.tail _ hra) (by rw [rrefs_length]; omega) ?_
  rw [rrefs_length]
  k_steps
  rename IsRange _ _ _ _ _ _ _ _ => R3
  rename News _ _ _ _ => N3
  rename Fr _ _ _ _ => F3
  refine LCg.CompSrc.range (n := rs.length) rfl F3 N3 R3 (range_small (k := rs.length) (by omega)) (range_size _) (by rw [sizeLine_eq]; omega) (fun gg => ?_)
  refine comp_ind (n := rs.length)
    (fun i ys nw => ∃ cs objs, ys = refs cs ∧ nw = (L' + 1, oc) :: (objs ++ news) ∧ cs.map Cell.pair = (List.range i).map (fun j => ((rs.getD j dR).first, (j : Int))) ∧ (∀ c ∈ cs, Bears objs c) ∧ ∀ p ∈ objs, NF p.2)
    ?_ ?_ rs.length 0 [] _ (by omega) ⟨[], [], rfl, rfl, rfl, (fun _ h => nomatch h), (fun _ h => nomatch h)⟩
  · clear F3 N3 R3
    rintro ys nw ⟨cs0, objs, rfl, rfl, hcs, hbc, hob⟩ D h₁ tk₁ F4 N4 off
    have hoff : ∀ p ∈ (L' + 1, oc) :: (objs ++ news), p.1 ≠ D := off1_mem off
    have hnf : ∀ p ∈ (L' + 1, oc) :: (objs ++ news), NF p.2 := by
      intro p hp
      rcases List.mem_cons.mp hp with rfl | hp
      · exact fun vs e => by rw [hcell] at e; cases e
      · rcases List.mem_append.mp hp with hp | hp
        · exact hob p hp
        · exact hcls p hp
    have hclen : cs0.length = rs.length := by
      have := congrArg List.length hcs
      simpa using this
    k_steps
    k_dflt (refine' con_use (hfy D cs0 (refs cs0).length ((L' + 1, oc) :: (objs ++ news))) ?k1 ?k2 ?k3 ?k4 ?k5 ?kK ?kR ?kd ?ku ?_)
    case k1 => k_asm
    case k2 => k_asm
    case k3 => k_asm
    case k4 => k_asm
    case k5 => k_asm
    case kK => exact rfl
    case kR => exact ⟨rfl, rfl, by omega, hoff, hnf, fun c hc => bears_cons (bears_app (hbc c hc))⟩
    case kd => show dp + 1 + 3 < 900; omega
    case ku => show un + 3 + 8 * 3 < 2000; omega
    clear N4
    rintro r news' h6 tk6 F6 N6 ⟨rfl, rfl⟩
    clear F4
    generalize hH : fyL ltC (cs0.length / 2) cs0 = H0 at *
    k_steps
    have hraL : (ra, listOf (rrefs rs).toArray nr) ∈ (D, listOf (refs H0).toArray (refs cs0).length) :: ((L' + 1, oc) :: (objs ++ news)) := .tail _ (.tail _ (List.mem_append.mpr (.inr hra)))
    k_dflt (refine LCg.Assign_ListComp_U (F₀ := F6) (by rfl) (by with_unfolding_all rfl) (by with_unfolding_all rfl) (by decide) (by rfl) (by decide) (by rfl) (by rfl) (by rfl) ?_)
    k_steps
    refine LCg.CompSrc.ledger (its := (rrefs rs).toArray) (k := nr) rfl F6 N6 hraL (by rw [List.size_toArray, rrefs_length, sizeLine_eq]; omega) (fun gg => ?_)
    rw [show (rrefs rs).toArray.size = rs.length from by rw [List.size_toArray, rrefs_length]]
    refine comp_ind (n := rs.length)
      (fun i ys nw => nw = (D, listOf (refs H0).toArray (refs cs0).length) :: ((L' + 1, oc) :: (objs ++ news)) ∧ IntsAre ys ((rs.take i).map (·.count)))
      ?_ ?_ rs.length 0 [] _ (by omega) ⟨rfl, .nil⟩
    · clear F6 N6
      rintro ys nw ⟨rfl, hys⟩ D2 h₁ tk₁ F7 N7 off7
      rw [List.take_length] at hys
      have hoff7 := off1_mem off7
      k_steps
      rename News _ _ _ _ => N8
      rename Fr _ _ _ _ => F8
      obtain ⟨tl, htl⟩ := name_it N8
      subst htl
      rename (_ ∧ _ ∧ _ ∧ AllLt _ _) => hltl
      k_dflt (refine For_invVF F8 rfl rfl ?_)
      k_steps
      rename IsRange _ _ _ _ _ _ _ _ => R9
      rename News _ _ _ _ => N9
      rename Fr _ _ _ _ => F9
      rw [hT] at R9
      have N10 : News g' L' _ ((D, listOf (refs H0).toArray (refs cs0).length) :: (L' + 1, oc) :: (tl, listOf (refs []).toArray 0) :: (D2, listOf ys.toArray ys.length) :: (objs ++ news)) := kst_newsOf N9 (fun p hp => by
        rcases List.mem_cons.mp hp with rfl | hp
        · exact .tail _ (.tail _ (.head _))
        rcases List.mem_cons.mp hp with rfl | hp
        · exact .tail _ (.tail _ (.tail _ (.head _)))
        rcases List.mem_cons.mp hp with rfl | hp
        · exact .head _
        rcases List.mem_cons.mp hp with rfl | hp
        · exact .tail _ (.head _)
        exact .tail _ (.tail _ (.tail _ (.tail _ hp))))
      clear N9
      refine iter_range (n := T) rfl R9 (range_small (by omega)) (range_size _) F9 N10 ?_
        (fun i m₁ news₁ => ∃ h left tls us k1 k2 k3 ob, news₁ = (D, listOf (refs h).toArray k1) :: (L' + 1, oc) :: (tl, listOf (refs tls).toArray k2) :: (D2, listOf us.toArray k3) :: (ob ++ news) ∧ IntsAre us left ∧ tls.length = i ∧ P h left tls ∧
          (∀ c ∈ h, Bears ob c) ∧ (∀ c ∈ tls, Bears ob c) ∧ (∀ p ∈ ob ++ news, p.1 ≠ D ∧ p.1 ≠ tl ∧ p.1 ≠ D2) ∧ (∀ p ∈ ob, NF p.2) ∧
          ∀ q ∈ [(Str.ofString "heap", Value.ref D), (Str.ofString "left", .ref D2), (Str.ofString "told", .ref tl), (Str.ofString "up", .bool true)], m₁ q.1 = some q.2)
        ⟨H0, rs.map (·.count), [], ys, _, _, _, objs, rfl, hys, rfl, ?_, ?_, (fun _ h => nomatch h), ?_, hob, by kst_all⟩ ?_ ?_
      · intro p hp
        rcases List.mem_cons.mp hp with rfl | hp
        · exact nf_list
        rcases List.mem_cons.mp hp with rfl | hp
        · exact hnf _ (.head _)
        rcases List.mem_cons.mp hp with rfl | hp
        · exact nf_list
        rcases List.mem_cons.mp hp with rfl | hp
        · exact nf_list
        exact hnf p (.tail _ hp)
      · rw [← hH]; exact hinit cs0 hcs
      · rw [← hH]; exact fyL_bears (by omega) hbc
      · intro p hp
        have hp1 : p.1 < tl := ktn_ltOf hltl.2.2.2 p hp
        exact ⟨hoff p (.tail _ hp), Nat.ne_of_lt hp1, hoff7 p (.tail _ (.tail _ hp))⟩
      · clear F9 N10 R9
        rintro i t m₁ news₁ h₁ tk₁ own hi ⟨h, left, tls, us, k1, k2, k3, ob, rfl, hus, htl, hP, hbh, hbt, hdis, hnob, hps⟩ hcl1 hown F10 N10
        obtain ⟨hh0, hh1, hll, p, hp0, hp1, hlb, hnb, hA, hB⟩ := hstep h left tls hP (by omega)
        dsimp only [envOfC] at F10 N10
        obtain ⟨u2, F11⟩ := fr_loop _ F10 hps rfl
        clear F10 hps
        dsimp only [kstB] at F11
        have honD := own_ne N10 hown
        replace N10 := news_rot N10
        rw [List.cons_append, List.cons_append, List.cons_append] at N10
        iterate 7 (first | (k_unfold; (try dsimp only)) | (k_end; wrow_close) | walk1 | (dsimp only; walk1) | (leave1; walk_say "STEP leave1"; try dsimp only))
        rename News _ _ _ _ => N11
        rename Fr _ _ _ _ => F12
        refine eq_nil N11 (.tail _ (.head _)) (.head _) (by ktr_units) ?_
        rw [refs_length, decide_eq_false (by omega : ¬ h.length = 0)]
        have N12 := kst_newsOf N11 (fun p hp => .tail _ hp)
        clear N11
        have hmo : ∀ p ∈ ob ++ news, p ∈ (D, listOf (refs h).toArray k1) :: (L' + 1, oc) :: (tl, listOf (refs tls).toArray k2) :: (D2, listOf us.toArray k3) :: (ob ++ news ++ own) := fun p hp => .tail _ (.tail _ (.tail _ (.tail _ (List.mem_append.mpr (.inl hp)))))
        iterate 9 (first | (k_unfold; (try dsimp only)) | (k_end; wrow_close) | walk1 | (dsimp only; walk1) | (leave1; walk_say "STEP leave1"; try dsimp only))
        refine item_any N12 (.head _) (i := 0) rfl (by rw [refs_length]; omega) (refs_get hh0) ?_
        obtain ⟨tc1, tc2, nc, hc0⟩ := bears_at hbh hh0
        have hc1 := hmo _ (List.mem_append.mpr (.inl hc0))
        generalize hc : h.getD 0 dC = c0 at *
        obtain ⟨a0, n0, p0⟩ := c0
        dsimp only at hp0 hnb hA hB hc0 hc1
        subst hp0
        simp only [Int.one_mul, Int.neg_mul, ← Int.sub_eq_add_neg] at hA
        obtain ⟨hnb1, hnb2⟩ := hnb
        have honT : ∀ q ∈ own, q.1 ≠ tl := fun q hq => news_ne (o := q.2) (o' := listOf (refs tls).toArray k2) N12 (.tail _ (.tail _ (.tail _ (.tail _ (List.mem_append.mpr (.inr hq)))))) (.tail _ (.tail _ (.head _))) (hown q hq) nf_list
        have honL : ∀ q ∈ own, q.1 ≠ D2 := fun q hq => news_ne (o := q.2) (o' := listOf us.toArray k3) N12 (.tail _ (.tail _ (.tail _ (.tail _ (List.mem_append.mpr (.inr hq)))))) (.tail _ (.tail _ (.tail _ (.head _)))) (hown q hq) nf_list
        k_steps
        rename News _ _ _ _ => N13
        rename Fr _ _ _ _ => F13
        rw [Int.toNat_natCast]
        have hul := hus.length
        refine set_any (rest := (D, listOf (refs h).toArray k1) :: (L' + 1, oc) :: (tl, listOf (refs tls).toArray k2) :: (ob ++ news ++ own)) F13 (kst_newsOf N13 (led_a)) ?_ (i := p) rfl (by omega) (by omega) (fun h14 F14 N14 => ?_)
        · intro q hq
          rcases List.mem_cons.mp hq with rfl | hq
          · exact (hoff7 (D, _) (.head _) : D ≠ D2)
          rcases List.mem_cons.mp hq with rfl | hq
          · exact (hoff7 (L' + 1, oc) (.tail _ (.head _)) : L' + 1 ≠ D2)
          rcases List.mem_cons.mp hq with rfl | hq
          · exact Nat.ne_of_gt hltl.1
          rcases List.mem_append.mp hq with hq | hq
          · exact (hdis q hq).2.2
          · exact honL q hq
        obtain ⟨us2, hus2, N14a⟩ := news_ints N14 hus (by omega)
        clear N14
        have N14 := kst_newsOf N14a led_b
        clear N14a
        clear N13 F13 hmo hc1
        have hl3 : (left.set p (left.getD p 0 - 1)).getD p 0 = left.getD p 0 - 1 := by rw [getDi_set _ _ _ _ (by omega), if_pos rfl]
        have hll2 : (left.set p (left.getD p 0 - 1)).length = rs.length := by rw [List.length_set]; exact hll
        have hv100 : left.getD p 0 - 1 < 100 := by have := hlb (left.getD p 0) (by rw [List.getD_eq_getElem?_getD, List.getElem?_eq_getElem (by omega)]; exact List.getElem_mem _); omega
        generalize hleft2 : left.set p (left.getD p 0 - 1) = left2 at *
        generalize hlv : left.getD p 0 - 1 = lv at *
        k_steps
        · rename News _ _ _ _ => N15
          rename Fr _ _ _ _ => F15
          rename ((0 : Int) < List.getD _ _ _) => hpos
          rw [Int.toNat_natCast, hl3] at hpos
          obtain ⟨s1, s2, s3, s4, s5, ns, hro⟩ := bearsR_at hrs hp1
          have hmo : ∀ p ∈ news, p ∈ (D, listOf (refs h).toArray k1) :: (L' + 1, oc) :: (tl, listOf (refs tls).toArray k2) :: (D2, listOf us2.toArray k3) :: (ob ++ news ++ own) := fun p hp => .tail _ (.tail _ (.tail _ (.tail _ (List.mem_append.mpr (.inl (List.mem_append.mpr (.inr hp)))))))
          refine item_any N15 (hmo _ hra) (i := p) rfl (by rw [rrefs_length]; omega) (rrefs_get hp1) ?_
          k_steps
          refine item_any (vs := [_, _, _, _, _]) N15 (hmo _ hro) (i := 1) rfl (by simp) rfl ?_
          k_steps
          rename News _ _ _ _ => N16
          rename Fr _ _ _ _ => F16
          rename (_ ∧ _ ∧ _ ∧ _ ∧ AllLt _ (ob ++ news ++ own)) => hl16
          obtain ⟨la, hla⟩ := name_it N16
          subst hla
          obtain ⟨tx, N16a⟩ := name_tok N16
          have N17 := kst_newsOf N16a led_c
          clear N16 N16a
          k_dflt (refine' con_use (hr D h k1 ((la, listOf #[Value.int (n0 + (rs.getD p dR).step) tx, Value.int (↑p) tc2] 0) :: (L' + 1, oc) :: (tl, listOf (refs tls).toArray k2) :: (D2, listOf us2.toArray k3) :: (ob ++ news ++ own)) ⟨la, n0 + (rs.getD p dR).step, p⟩) ?k1 ?k2 ?k3 ?k4 ?k5 ?kK ?kR ?kd ?ku ?_)
          case k1 => k_asm
          case k2 => k_asm
          case k3 => k_asm
          case k4 => k_asm
          case k5 => k_asm
          case kK => exact rfl
          case kR =>
            refine ⟨rfl, rfl, hh0, by omega, ?_, ⟨_, _, _, .head _⟩, fun c hc => bears_app2 (hbh c hc)⟩
            intro q hq
            rcases List.mem_cons.mp hq with rfl | hq
            · exact Nat.ne_of_gt hl16.1
            rcases List.mem_cons.mp hq with rfl | hq
            · exact (hoff (L' + 1, oc) (.head _) : L' + 1 ≠ D)
            rcases List.mem_cons.mp hq with rfl | hq
            · exact Nat.ne_of_gt hltl.2.1
            rcases List.mem_cons.mp hq with rfl | hq
            · exact (hoff7 (D, _) (.head _) : D ≠ D2).symm
            rcases List.mem_append.mp hq with hq | hq
            · exact (hdis q hq).1
            · exact honD q hq
          case kd => show dp + 1 + 3 < 900; omega
          case ku => show un + 3 + 8 * 3 < 2000; omega
          clear F16 N17
          rintro r news' h'' tk'' F18 N18 ⟨rfl, rfl⟩
          rw [hc]
          k_steps
          rename News _ _ _ _ => N19
          rename Fr _ _ _ _ => F19
          refine append_any (vs := refs tls) F19 (kst_newsOf N19 led_d) ?_ (by rw [refs_length]; omega) (fun h20 F20 N20 => ?_)
          · intro q hq
            rcases List.mem_cons.mp hq with rfl | hq
            · exact Nat.ne_of_lt hltl.2.1
            rcases List.mem_cons.mp hq with rfl | hq
            · exact Nat.ne_of_gt hl16.2.2.1
            rcases List.mem_cons.mp hq with rfl | hq
            · exact Nat.ne_of_lt hltl.2.2.1
            rcases List.mem_cons.mp hq with rfl | hq
            · exact Nat.ne_of_lt hltl.1
            rcases List.mem_append.mp hq with hq | hq
            · exact (hdis q hq).2.1
            · exact honT q hq
          clear N19 F19
          k_steps
          rename News _ _ _ _ => N21
          rename Fr _ _ _ _ => F21
          rw [refs_snoc] at N21
          refine FEnd.mk ((D, listOf (refs (siftup ltC 0 (h.set 0 ⟨la, n0 + (rs.getD p dR).step, p⟩))).toArray k1) :: (L' + 1, oc) :: (tl, listOf (refs (tls ++ [⟨a0, n0, p⟩])).toArray (k2 + 1)) :: (D2, listOf us2.toArray k3) :: (((la, listOf #[Value.int (n0 + (rs.getD p dR).step) tx, Value.int (↑p) tc2] 0) :: ob) ++ news)) F21 N21 ?_ ?_ ?_ ⟨_, left2, _, us2, k1, k2 + 1, k3, _, rfl, hus2, ?_, hA hpos la, ?_, ?_, ?_, ?_, by kst_all⟩
          · exact own_in
          · exact led_f
          · intro q hq
            rcases List.mem_cons.mp hq with rfl | hq
            · exact nf_list
            rcases List.mem_cons.mp hq with rfl | hq
            · exact hnf _ (.head _)
            rcases List.mem_cons.mp hq with rfl | hq
            · exact nf_list
            rcases List.mem_cons.mp hq with rfl | hq
            · exact nf_list
            rcases List.mem_cons.mp hq with rfl | hq
            · exact nf_list
            rcases List.mem_append.mp hq with hq | hq
            · exact hnob q hq
            · exact hcls q hq
          · rw [List.length_append, htl]; rfl
          · refine siftup_bears (by rw [List.length_set]; exact hh0) (bears_set (fun c hc => bears_cons (hbh c hc)) ⟨_, _, _, .head _⟩)
          · intro c hc
            rcases List.mem_append.mp hc with hc | hc
            · exact bears_cons (hbt c hc)
            · rw [List.mem_singleton.mp hc]; exact bears_cons ⟨_, _, _, hc0⟩
          · intro q hq
            rcases List.mem_cons.mp hq with rfl | hq
            · exact ⟨Nat.ne_of_gt hl16.1, Nat.ne_of_gt hl16.2.2.1, Nat.ne_of_gt hl16.2.2.2.1⟩
            · exact hdis q hq
          · intro q hq
            rcases List.mem_cons.mp hq with rfl | hq
            · exact nf_list
            · exact hnob q hq
        · rename News _ _ _ _ => N15
          rename Fr _ _ _ _ => F15
          rename (¬ (0 : Int) < List.getD _ _ _) => hpos
          rw [Int.toNat_natCast, hl3] at hpos
          k_dflt (refine' con_use (hpop D h k1 ((L' + 1, oc) :: (tl, listOf (refs tls).toArray k2) :: (D2, listOf us2.toArray k3) :: (ob ++ news ++ own))) ?k1 ?k2 ?k3 ?k4 ?k5 ?kK ?kR ?kd ?ku ?_)
          case k1 => k_asm
          case k2 => k_asm
          case k3 => k_asm
          case k4 => k_asm
          case k5 => k_asm
          case kK => exact rfl
          case kR =>
            refine ⟨rfl, rfl, hh0, by omega, ?_, fun c hc => bears_app3 (hbh c hc)⟩
            intro q hq
            rcases List.mem_cons.mp hq with rfl | hq
            · exact (hoff (L' + 1, oc) (.head _) : L' + 1 ≠ D)
            rcases List.mem_cons.mp hq with rfl | hq
            · exact Nat.ne_of_gt hltl.2.1
            rcases List.mem_cons.mp hq with rfl | hq
            · exact (hoff7 (D, _) (.head _) : D ≠ D2).symm
            rcases List.mem_append.mp hq with hq | hq
            · exact (hdis q hq).1
            · exact honD q hq
          case kd => show dp + 1 + 3 < 900; omega
          case ku => show un + 3 + 8 * 3 < 2000; omega
          clear F15 N15
          rintro r news' h'' tk'' F18 N18 ⟨rfl, rfl⟩
          rw [hc]
          k_steps
          rename News _ _ _ _ => N19
          rename Fr _ _ _ _ => F19
          refine append_any (vs := refs tls) F19 (kst_newsOf N19 led_e) ?_ (by rw [refs_length]; omega) (fun h20 F20 N20 => ?_)
          · intro q hq
            rcases List.mem_cons.mp hq with rfl | hq
            · exact Nat.ne_of_lt hltl.2.1
            rcases List.mem_cons.mp hq with rfl | hq
            · exact Nat.ne_of_lt hltl.2.2.1
            rcases List.mem_cons.mp hq with rfl | hq
            · exact Nat.ne_of_lt hltl.1
            rcases List.mem_append.mp hq with hq | hq
            · exact (hdis q hq).2.1
            · exact honT q hq
          clear N19 F19
          k_steps
          rename News _ _ _ _ => N21
          rename Fr _ _ _ _ => F21
          rw [refs_snoc] at N21
          refine FEnd.mk ((D, listOf (refs (popL ltC h)).toArray (k1 + 1)) :: (L' + 1, oc) :: (tl, listOf (refs (tls ++ [⟨a0, n0, p⟩])).toArray (k2 + 1)) :: (D2, listOf us2.toArray k3) :: (ob ++ news)) F21 N21 ?_ ?_ ?_ ⟨_, left2, _, us2, k1 + 1, k2 + 1, k3, ob, rfl, hus2, ?_, hB hpos, ?_, ?_, hdis, hnob, by kst_all⟩
          · exact own_in4
          · exact led_g
          · intro q hq
            rcases List.mem_cons.mp hq with rfl | hq
            · exact nf_list
            rcases List.mem_cons.mp hq with rfl | hq
            · exact hnf _ (.head _)
            rcases List.mem_cons.mp hq with rfl | hq
            · exact nf_list
            rcases List.mem_cons.mp hq with rfl | hq
            · exact nf_list
            rcases List.mem_append.mp hq with hq | hq
            · exact hnob q hq
            · exact hcls q hq
          · rw [List.length_append, htl]; rfl
          · exact popL_bears hh0 hbh
          · intro c hc
            rcases List.mem_append.mp hc with hc | hc
            · exact hbt c hc
            · rw [List.mem_singleton.mp hc]; exact ⟨_, _, _, hc0⟩
      · clear F9 N10 R9
        rintro h₁ tk₁ m₁ news₁ F10 N10 hcl1 ⟨h, left, tls, us, k1, k2, k3, ob, rfl, hus, htl, hP, hbh, hbt, hdis, hnob, hps⟩
        obtain rfl := hend h left tls hP htl
        dsimp only [envOfC] at F10 N10
        obtain ⟨u2, F11⟩ := fr_ps _ F10 hps
        clear F10 hps
        dsimp only [kstB] at F11
        k_steps
        exact hret _ _ _ _ (by assumption) (kst_newsOf (by assumption) led_h) ⟨_, tl, tls, k2, ob, left, rfl, rfl, htl, hP, hbt, hnob⟩

    · clear F6 N6
      rintro i ys nw v I oI C oC D2 m₂ h₁ tk₁ E' hi ⟨rfl, hys⟩ hv hC hx F7 N7 off7 ne
      obtain ⟨s1, s2, s3, s4, s5, ns, hro⟩ := bearsR_at hrs hi
      have hv' : v = .ref (rs.getD i dR).ad := by
        have h1 : (rrefs rs)[i]? = some v := by simpa using hv
        rw [rrefs_get hi] at h1
        exact (Option.some.inj h1).symm
      subst hv'
      have hcm : ∀ p ∈ news, p ∈ (I, oI) :: (C, oC) :: (D2, LCg.lst ys) :: (D, listOf (refs H0).toArray (refs cs0).length) :: ((L' + 1, oc) :: (objs ++ news)) := fun p hp => .tail _ (.tail _ (.tail _ (.tail _ (.tail _ (List.mem_append.mpr (.inr hp))))))
      walk1
      k_dflt (refine LCgL.ld_own N7 (.tail _ (.head _)) hC hx ?_)
      walk1
      refine item_any (vs := [_, _, _, _, _]) N7 (hcm _ hro) (i := 2) rfl (by simp) rfl ?_
      refine LCg.CompEnd.intro F7 N7 _ (fun p hp => hp) off7 (.inr ⟨_, hraL, rfl, _, rfl⟩) ⟨rfl, ?_⟩
      rw [List.take_add_one, List.getElem?_eq_getElem hi, List.map_append]
      have eg : rs.getD i dR = rs[i] := by rw [List.getD_eq_getElem?_getD, List.getElem?_eq_getElem hi]; rfl
      rw [eg]
      exact hys.append (.cons _ _ .nil)
  · clear F3 N3 R3
    rintro i ys nw v I oI C oC D m₂ h₁ tk₁ E' hi ⟨cs0, objs, rfl, rfl, hcs, hbc, hob⟩ ⟨tv, rfl⟩ hC hx F4 N4 off ne
    rw [Int.zero_add] at hx
    obtain ⟨s1, s2, s3, s4, s5, ns, hro⟩ := bearsR_at hrs hi
    have hcm : ∀ p ∈ news, p ∈ (I, oI) :: (C, oC) :: (D, LCg.lst (refs cs0)) :: ((L' + 1, oc) :: (objs ++ news)) := fun p hp => .tail _ (.tail _ (.tail _ (.tail _ (List.mem_append.mpr (.inr hp)))))
    walk1
    walk1
    walk1
    walk1
    k_dflt (refine lcf_cell N4 rfl (.tail _ (.tail _ (.tail _ (.head _)))) hcell ?_ rfl rfl)
    try dsimp only
    k_dflt (refine LCgL.ld_own N4 (.tail _ (.head _)) hC hx ?_)
    refine item_any N4 (hcm _ hra) (i := i) rfl (by rw [rrefs_length]; omega) (rrefs_get hi) ?_
    walk1
    refine item_any (vs := [_, _, _, _, _]) N4 (hcm _ hro) (i := 0) rfl (by simp) rfl ?_
    walk1
    k_dflt (refine LCgL.ld_own N4 (.tail _ (.head _)) hC hx ?_)
    walk1
    refine newList_K F4 N4 ?_ (by simp [sizeLine_eq])
    intro l h5 F5 N5 hlt
    refine LCg.CompEnd.intro F5 N5 ((L' + 1, oc) :: (((l, listOf #[.int (rs.getD i dR).first s1, .int (i : Int) tv] 0) :: objs) ++ news)) ?_ ?_ trivial ⟨cs0 ++ [⟨l, (rs.getD i dR).first, i⟩], _, ?_, rfl, ?_, ?_, ?_⟩
    · intro p hp
      rcases List.mem_cons.mp hp with rfl | hp
      · exact .tail _ (.head _)
      · rcases List.mem_cons.mp hp with rfl | hp
        · exact .tail _ (.tail _ (.head _))
        · rcases List.mem_cons.mp hp with rfl | hp
          · exact .tail _ (.tail _ (.tail _ (.head _)))
          · rcases List.mem_cons.mp hp with rfl | hp
            · exact .tail _ (.tail _ (.tail _ (.tail _ (.head _))))
            · rcases List.mem_cons.mp hp with rfl | hp
              · exact .head _
              · exact .tail _ (.tail _ (.tail _ (.tail _ (.tail _ hp))))
    · refine LCg.Off3.of ?_
      intro p hp
      rcases List.mem_cons.mp hp with rfl | hp
      · exact LCg.Off3.mem off _ (.head _)
      rcases List.mem_cons.mp hp with rfl | hp
      · exact ⟨Nat.ne_of_gt (hlt (I, oI) (.head _)), Nat.ne_of_gt (hlt (C, oC) (.tail _ (.head _))), Nat.ne_of_gt (hlt (D, _) (.tail _ (.tail _ (.head _))))⟩
      · exact LCg.Off3.mem off p (.tail _ hp)
    · simp [refs]
    · rw [List.map_append, hcs, List.range_succ, List.map_append]; rfl
    · intro c hc
      rcases List.mem_append.mp hc with hc | hc
      · obtain ⟨a1, a2, a3, hm⟩ := hbc c hc
        exact ⟨a1, a2, a3, .tail _ hm⟩
      · rw [List.mem_singleton.mp hc]
        exact ⟨_, _, _, .head _⟩
    · intro p hp
      rcases List.mem_cons.mp hp with rfl | hp
      · exact nf_list
      · exact hob p hp

theorem tdM {prog : Program} {w : World} {mean : ExcName → Option Value} {mg mb : Str → Option Value} (ra : Addr) (rs : List RowD) (nr : Nat) (hlen : rs.length < 50) (T : Nat) (hT : (rs.map (·.count)).sum = (T : Int)) (hT2 : T < 500)
   (P : List Cell → List Int → List Cell → Prop) (hinit : ∀ cs0 : List Cell, cs0.map Cell.pair = (List.range rs.length).map (fun j => ((rs.getD j dR).first, (j : Int))) → P (fyL gtC (cs0.length / 2) cs0) (rs.map (·.count)) [])
   (hstep : ∀ h left tl, P h left tl → tl.length < T → StepOk gtC (-1) rs P h left tl) (hend : ∀ h left tl, P h left tl → tl.length = T → h = []) :
   Con prog w mean mg mb 117 5 (fun news vs => vs = [.ref ra, .bool false] ∧ (ra, listOf (rrefs rs).toArray nr) ∈ news ∧ (∀ r ∈ rs, BearsR news r) ∧ ∀ p ∈ news, NF p.2)
     (fun news _ r news' => ∃ ea tl tls k ob left, r = .ref ea ∧ news' = (ea, listOf #[.ref tl, .bool true] 0) :: (tl, listOf (refs tls).toArray k) :: (ob ++ news) ∧ tls.length = T ∧ P [] left tls ∧ (∀ c ∈ tls, Bears ob c) ∧ ∀ p ∈ ob, NF p.2) := by
  unfold Con
  intro dp un gd cn cs a ccd cl outer A₀ base h₀ L m news s vs Q E B F X N TT hk hR hd hu hret
  obtain ⟨rfl, hra, hrs, hcls⟩ := hR
  refine wpAny_call ?_
  k_dflt (refine' code_defC ?k1 ?k2 ?k3 ?k4 ?k5 ?kA ?kF ?kK ?k6 ?k7 ?k8 ?k9 ?kB ?kD ?_ ?c2 ?c3 ?c4; (case kA => exact rfl); (case kF => exact rfl); (case kK => assumption); (case k1 => k_asm); (case k2 => k_asm); (case k3 => k_asm); (case k4 => k_asm); (case k5 => k_asm); (case k6 => k_is); (case k7 => k_is); (case k8 => ktr_room); (case k9 => exact BindsTo.of_eq rfl); (case kB => exact rfl); (case kD => decide +kernel); (case c2 => exact rfl); (case c3 => exact rfl); (case c4 => exact rfl); k_whole; intro g' L' h' tk' cells' FG' F' N' Y' B' X' T' l1; k_cells Y'; (try simp only [List.cons_append, List.nil_append] at N'); (try dsimp only); (try k_fold))
  obtain ⟨u0, F1⟩ := fr_ps [(Str.ofString "up", .bool false)] F' (by kst_all)
  clear F'
  dsimp only [kstB] at F1
  rename (Obj.data _ = Data.cell _) => hcell0
  obtain ⟨oc, hoc⟩ := name_obj N'
  subst hoc
  have hcell : oc.data = Data.cell (some (.ref ra)) := hcell0
  clear hcell0
  k_steps
  k_dflt (refine LCg.Assign_ListComp_U (F₀ := F1) (by rfl) (by with_unfolding_all rfl) (by with_unfolding_all rfl) (by decide) (by rfl) (by decide) (by rfl) (by rfl) (by rfl) ?_)
  k_steps
  refine len_any N' (.tail _ hra) (by rw [rrefs_length]; omega) ?_
  rw [rrefs_length]
  k_steps
  rename IsRange _ _ _ _ _ _ _ _ => R3
  rename News _ _ _ _ => N3
  rename Fr _ _ _ _ => F3
  refine LCg.CompSrc.range (n := rs.length) rfl F3 N3 R3 (range_small (k := rs.length) (by omega)) (range_size _) (by rw [sizeLine_eq]; omega) (fun gg => ?_)
  refine comp_ind (n := rs.length)
    (fun i ys nw => ∃ cs objs, ys = refs cs ∧ nw = (L' + 1, oc) :: (objs ++ news) ∧ cs.map Cell.pair = (List.range i).map (fun j => ((rs.getD j dR).first, (j : Int))) ∧ (∀ c ∈ cs, Bears objs c) ∧ ∀ p ∈ objs, NF p.2)
    ?_ ?_ rs.length 0 [] _ (by omega) ⟨[], [], rfl, rfl, rfl, (fun _ h => nomatch h), (fun _ h => nomatch h)⟩
  · clear F3 N3 R3
    rintro ys nw ⟨cs0, objs, rfl, rfl, hcs, hbc, hob⟩ D h₁ tk₁ F4 N4 off
    have hoff : ∀ p ∈ (L' + 1, oc) :: (objs ++ news), p.1 ≠ D := off1_mem off
    have hnf : ∀ p ∈ (L' + 1, oc) :: (objs ++ news), NF p.2 := by
      intro p hp
      rcases List.mem_cons.mp hp with rfl | hp
      · exact fun vs e => by rw [hcell] at e; cases e
      · rcases List.mem_append.mp hp with hp | hp
        · exact hob p hp
        · exact hcls p hp
    have hclen : cs0.length = rs.length := by
      have := congrArg List.length hcs
      simpa using this
    k_steps
    k_dflt (refine' con_use (hfyM D cs0 (refs cs0).length ((L' + 1, oc) :: (objs ++ news))) ?k1 ?k2 ?k3 ?k4 ?k5 ?kK ?kR ?kd ?ku ?_)
    case k1 => k_asm
    case k2 => k_asm
    case k3 => k_asm
    case k4 => k_asm
    case k5 => k_asm
    case kK => exact rfl
    case kR => exact ⟨rfl, rfl, by omega, hoff, hnf, fun c hc => bears_cons (bears_app (hbc c hc))⟩
    case kd => show dp + 1 + 3 < 900; omega
    case ku => show un + 3 + 8 * 3 < 2000; omega
    clear N4
    rintro r news' h6 tk6 F6 N6 ⟨rfl, rfl⟩
    clear F4
    generalize hH : fyL gtC (cs0.length / 2) cs0 = H0 at *
    k_steps
    have hraL : (ra, listOf (rrefs rs).toArray nr) ∈ (D, listOf (refs H0).toArray (refs cs0).length) :: ((L' + 1, oc) :: (objs ++ news)) := .tail _ (.tail _ (List.mem_append.mpr (.inr hra)))
    k_dflt (refine LCg.Assign_ListComp_U (F₀ := F6) (by rfl) (by with_unfolding_all rfl) (by with_unfolding_all rfl) (by decide) (by rfl) (by decide) (by rfl) (by rfl) (by rfl) ?_)
    k_steps
    refine LCg.CompSrc.ledger (its := (rrefs rs).toArray) (k := nr) rfl F6 N6 hraL (by rw [List.size_toArray, rrefs_length, sizeLine_eq]; omega) (fun gg => ?_)
    rw [show (rrefs rs).toArray.size = rs.length from by rw [List.size_toArray, rrefs_length]]
    refine comp_ind (n := rs.length)
      (fun i ys nw => nw = (D, listOf (refs H0).toArray (refs cs0).length) :: ((L' + 1, oc) :: (objs ++ news)) ∧ IntsAre ys ((rs.take i).map (·.count)))
      ?_ ?_ rs.length 0 [] _ (by omega) ⟨rfl, .nil⟩
    · clear F6 N6
      rintro ys nw ⟨rfl, hys⟩ D2 h₁ tk₁ F7 N7 off7
      rw [List.take_length] at hys
      have hoff7 := off1_mem off7
      k_steps
      rename News _ _ _ _ => N8
      rename Fr _ _ _ _ => F8
      obtain ⟨tl, htl⟩ := name_it N8
      subst htl
      rename (_ ∧ _ ∧ _ ∧ AllLt _ _) => hltl
      k_dflt (refine For_invVF F8 rfl rfl ?_)
      k_steps
      rename IsRange _ _ _ _ _ _ _ _ => R9
      rename News _ _ _ _ => N9
      rename Fr _ _ _ _ => F9
      rw [hT] at R9
      have N10 : News g' L' _ ((D, listOf (refs H0).toArray (refs cs0).length) :: (L' + 1, oc) :: (tl, listOf (refs []).toArray 0) :: (D2, listOf ys.toArray ys.length) :: (objs ++ news)) := kst_newsOf N9 (fun p hp => by
        rcases List.mem_cons.mp hp with rfl | hp
        · exact .tail _ (.tail _ (.head _))
        rcases List.mem_cons.mp hp with rfl | hp
        · exact .tail _ (.tail _ (.tail _ (.head _)))
        rcases List.mem_cons.mp hp with rfl | hp
        · exact .head _
        rcases List.mem_cons.mp hp with rfl | hp
        · exact .tail _ (.head _)
        exact .tail _ (.tail _ (.tail _ (.tail _ hp))))
      clear N9
      refine iter_range (n := T) rfl R9 (range_small (by omega)) (range_size _) F9 N10 ?_
        (fun i m₁ news₁ => ∃ h left tls us k1 k2 k3 ob, news₁ = (D, listOf (refs h).toArray k1) :: (L' + 1, oc) :: (tl, listOf (refs tls).toArray k2) :: (D2, listOf us.toArray k3) :: (ob ++ news) ∧ IntsAre us left ∧ tls.length = i ∧ P h left tls ∧
          (∀ c ∈ h, Bears ob c) ∧ (∀ c ∈ tls, Bears ob c) ∧ (∀ p ∈ ob ++ news, p.1 ≠ D ∧ p.1 ≠ tl ∧ p.1 ≠ D2) ∧ (∀ p ∈ ob, NF p.2) ∧
          ∀ q ∈ [(Str.ofString "heap", Value.ref D), (Str.ofString "left", .ref D2), (Str.ofString "told", .ref tl), (Str.ofString "up", .bool false)], m₁ q.1 = some q.2)
        ⟨H0, rs.map (·.count), [], ys, _, _, _, objs, rfl, hys, rfl, ?_, ?_, (fun _ h => nomatch h), ?_, hob, by kst_all⟩ ?_ ?_
      · intro p hp
        rcases List.mem_cons.mp hp with rfl | hp
        · exact nf_list
        rcases List.mem_cons.mp hp with rfl | hp
        · exact hnf _ (.head _)
        rcases List.mem_cons.mp hp with rfl | hp
        · exact nf_list
        rcases List.mem_cons.mp hp with rfl | hp
        · exact nf_list
        exact hnf p (.tail _ hp)
      · rw [← hH]; exact hinit cs0 hcs
      · rw [← hH]; exact fyL_bears (by omega) hbc
      · intro p hp
        have hp1 : p.1 < tl := ktn_ltOf hltl.2.2.2 p hp
        exact ⟨hoff p (.tail _ hp), Nat.ne_of_lt hp1, hoff7 p (.tail _ (.tail _ hp))⟩
      · clear F9 N10 R9
        rintro i t m₁ news₁ h₁ tk₁ own hi ⟨h, left, tls, us, k1, k2, k3, ob, rfl, hus, htl, hP, hbh, hbt, hdis, hnob, hps⟩ hcl1 hown F10 N10
        obtain ⟨hh0, hh1, hll, p, hp0, hp1, hlb, hnb, hA, hB⟩ := hstep h left tls hP (by omega)
        dsimp only [envOfC] at F10 N10
        obtain ⟨u2, F11⟩ := fr_loop _ F10 hps rfl
        clear F10 hps
        dsimp only [kstB] at F11
        have honD := own_ne N10 hown
        replace N10 := news_rot N10
        rw [List.cons_append, List.cons_append, List.cons_append] at N10
        iterate 7 (first | (k_unfold; (try dsimp only)) | (k_end; wrow_close) | walk1 | (dsimp only; walk1) | (leave1; walk_say "STEP leave1"; try dsimp only))
        rename News _ _ _ _ => N11
        rename Fr _ _ _ _ => F12
        refine eq_nil N11 (.tail _ (.head _)) (.head _) (by ktr_units) ?_
        rw [refs_length, decide_eq_false (by omega : ¬ h.length = 0)]
        have N12 := kst_newsOf N11 (fun p hp => .tail _ hp)
        clear N11
        have hmo : ∀ p ∈ ob ++ news, p ∈ (D, listOf (refs h).toArray k1) :: (L' + 1, oc) :: (tl, listOf (refs tls).toArray k2) :: (D2, listOf us.toArray k3) :: (ob ++ news ++ own) := fun p hp => .tail _ (.tail _ (.tail _ (.tail _ (List.mem_append.mpr (.inl hp)))))
        iterate 9 (first | (k_unfold; (try dsimp only)) | (k_end; wrow_close) | walk1 | (dsimp only; walk1) | (leave1; walk_say "STEP leave1"; try dsimp only))
        refine item_any N12 (.head _) (i := 0) rfl (by rw [refs_length]; omega) (refs_get hh0) ?_
        obtain ⟨tc1, tc2, nc, hc0⟩ := bears_at hbh hh0
        have hc1 := hmo _ (List.mem_append.mpr (.inl hc0))
        generalize hc : h.getD 0 dC = c0 at *
        obtain ⟨a0, n0, p0⟩ := c0
        dsimp only at hp0 hnb hA hB hc0 hc1
        subst hp0
        simp only [Int.one_mul, Int.neg_mul, ← Int.sub_eq_add_neg] at hA
        obtain ⟨hnb1, hnb2⟩ := hnb
        have honT : ∀ q ∈ own, q.1 ≠ tl := fun q hq => news_ne (o := q.2) (o' := listOf (refs tls).toArray k2) N12 (.tail _ (.tail _ (.tail _ (.tail _ (List.mem_append.mpr (.inr hq)))))) (.tail _ (.tail _ (.head _))) (hown q hq) nf_list
        have honL : ∀ q ∈ own, q.1 ≠ D2 := fun q hq => news_ne (o := q.2) (o' := listOf us.toArray k3) N12 (.tail _ (.tail _ (.tail _ (.tail _ (List.mem_append.mpr (.inr hq)))))) (.tail _ (.tail _ (.tail _ (.head _)))) (hown q hq) nf_list
        k_steps
        rename News _ _ _ _ => N13
        rename Fr _ _ _ _ => F13
        rw [Int.toNat_natCast]
        have hul := hus.length
        refine set_any (rest := (D, listOf (refs h).toArray k1) :: (L' + 1, oc) :: (tl, listOf (refs tls).toArray k2) :: (ob ++ news ++ own)) F13 (kst_newsOf N13 (led_a)) ?_ (i := p) rfl (by omega) (by omega) (fun h14 F14 N14 => ?_)
        · intro q hq
          rcases List.mem_cons.mp hq with rfl | hq
          · exact (hoff7 (D, _) (.head _) : D ≠ D2)
          rcases List.mem_cons.mp hq with rfl | hq
          · exact (hoff7 (L' + 1, oc) (.tail _ (.head _)) : L' + 1 ≠ D2)
          rcases List.mem_cons.mp hq with rfl | hq
          · exact Nat.ne_of_gt hltl.1
          rcases List.mem_append.mp hq with hq | hq
          · exact (hdis q hq).2.2
          · exact honL q hq
        obtain ⟨us2, hus2, N14a⟩ := news_ints N14 hus (by omega)
        clear N14
        have N14 := kst_newsOf N14a led_b
        clear N14a
        clear N13 F13 hmo hc1
        have hl3 : (left.set p (left.getD p 0 - 1)).getD p 0 = left.getD p 0 - 1 := by rw [getDi_set _ _ _ _ (by omega), if_pos rfl]
        have hll2 : (left.set p (left.getD p 0 - 1)).length = rs.length := by rw [List.length_set]; exact hll
        have hv100 : left.getD p 0 - 1 < 100 := by have := hlb (left.getD p 0) (by rw [List.getD_eq_getElem?_getD, List.getElem?_eq_getElem (by omega)]; exact List.getElem_mem _); omega
        generalize hleft2 : left.set p (left.getD p 0 - 1) = left2 at *
        generalize hlv : left.getD p 0 - 1 = lv at *
        k_steps
        · rename News _ _ _ _ => N15
          rename Fr _ _ _ _ => F15
          rename ((0 : Int) < List.getD _ _ _) => hpos
          rw [Int.toNat_natCast, hl3] at hpos
          obtain ⟨s1, s2, s3, s4, s5, ns, hro⟩ := bearsR_at hrs hp1
          have hmo : ∀ p ∈ news, p ∈ (D, listOf (refs h).toArray k1) :: (L' + 1, oc) :: (tl, listOf (refs tls).toArray k2) :: (D2, listOf us2.toArray k3) :: (ob ++ news ++ own) := fun p hp => .tail _ (.tail _ (.tail _ (.tail _ (List.mem_append.mpr (.inl (List.mem_append.mpr (.inr hp)))))))
          refine item_any N15 (hmo _ hra) (i := p) rfl (by rw [rrefs_length]; omega) (rrefs_get hp1) ?_
          k_steps
          refine item_any (vs := [_, _, _, _, _]) N15 (hmo _ hro) (i := 1) rfl (by simp) rfl ?_
          k_steps
          rename News _ _ _ _ => N16
          rename Fr _ _ _ _ => F16
          rename (_ ∧ _ ∧ _ ∧ _ ∧ AllLt _ (ob ++ news ++ own)) => hl16
          obtain ⟨la, hla⟩ := name_it N16
          subst hla
          obtain ⟨tx, N16a⟩ := name_tok N16
          have N17 := kst_newsOf N16a led_c
          clear N16 N16a
          k_dflt (refine' con_use (hrM D h k1 ((la, listOf #[Value.int (n0 - (rs.getD p dR).step) tx, Value.int (↑p) tc2] 0) :: (L' + 1, oc) :: (tl, listOf (refs tls).toArray k2) :: (D2, listOf us2.toArray k3) :: (ob ++ news ++ own)) ⟨la, n0 - (rs.getD p dR).step, p⟩) ?k1 ?k2 ?k3 ?k4 ?k5 ?kK ?kR ?kd ?ku ?_)
          case k1 => k_asm
          case k2 => k_asm
          case k3 => k_asm
          case k4 => k_asm
          case k5 => k_asm
          case kK => exact rfl
          case kR =>
            refine ⟨rfl, rfl, hh0, by omega, ?_, ⟨_, _, _, .head _⟩, fun c hc => bears_app2 (hbh c hc)⟩
            intro q hq
            rcases List.mem_cons.mp hq with rfl | hq
            · exact Nat.ne_of_gt hl16.1
            rcases List.mem_cons.mp hq with rfl | hq
            · exact (hoff (L' + 1, oc) (.head _) : L' + 1 ≠ D)
            rcases List.mem_cons.mp hq with rfl | hq
            · exact Nat.ne_of_gt hltl.2.1
            rcases List.mem_cons.mp hq with rfl | hq
            · exact (hoff7 (D, _) (.head _) : D ≠ D2).symm
            rcases List.mem_append.mp hq with hq | hq
            · exact (hdis q hq).1
            · exact honD q hq
          case kd => show dp + 1 + 3 < 900; omega
          case ku => show un + 3 + 8 * 3 < 2000; omega
          clear F16 N17
          rintro r news' h'' tk'' F18 N18 ⟨rfl, rfl⟩
          rw [hc]
          k_steps
          rename News _ _ _ _ => N19
          rename Fr _ _ _ _ => F19
          refine append_any (vs := refs tls) F19 (kst_newsOf N19 led_d) ?_ (by rw [refs_length]; omega) (fun h20 F20 N20 => ?_)
          · intro q hq
            rcases List.mem_cons.mp hq with rfl | hq
            · exact Nat.ne_of_lt hltl.2.1
            rcases List.mem_cons.mp hq with rfl | hq
            · exact Nat.ne_of_gt hl16.2.2.1
            rcases List.mem_cons.mp hq with rfl | hq
            · exact Nat.ne_of_lt hltl.2.2.1
            rcases List.mem_cons.mp hq with rfl | hq
            · exact Nat.ne_of_lt hltl.1
            rcases List.mem_append.mp hq with hq | hq
            · exact (hdis q hq).2.1
            · exact honT q hq
          clear N19 F19
          k_steps
          rename News _ _ _ _ => N21
          rename Fr _ _ _ _ => F21
          rw [refs_snoc] at N21
          refine FEnd.mk ((D, listOf (refs (siftup gtC 0 (h.set 0 ⟨la, n0 - (rs.getD p dR).step, p⟩))).toArray k1) :: (L' + 1, oc) :: (tl, listOf (refs (tls ++ [⟨a0, n0, p⟩])).toArray (k2 + 1)) :: (D2, listOf us2.toArray k3) :: (((la, listOf #[Value.int (n0 - (rs.getD p dR).step) tx, Value.int (↑p) tc2] 0) :: ob) ++ news)) F21 N21 ?_ ?_ ?_ ⟨_, left2, _, us2, k1, k2 + 1, k3, _, rfl, hus2, ?_, hA hpos la, ?_, ?_, ?_, ?_, by kst_all⟩
          · exact own_in
          · exact led_f
          · intro q hq
            rcases List.mem_cons.mp hq with rfl | hq
            · exact nf_list
            rcases List.mem_cons.mp hq with rfl | hq
            · exact hnf _ (.head _)
            rcases List.mem_cons.mp hq with rfl | hq
            · exact nf_list
            rcases List.mem_cons.mp hq with rfl | hq
            · exact nf_list
            rcases List.mem_cons.mp hq with rfl | hq
            · exact nf_list
            rcases List.mem_append.mp hq with hq | hq
            · exact hnob q hq
            · exact hcls q hq
          · rw [List.length_append, htl]; rfl
          · refine siftup_bears (by rw [List.length_set]; exact hh0) (bears_set (fun c hc => bears_cons (hbh c hc)) ⟨_, _, _, .head _⟩)
          · intro c hc
            rcases List.mem_append.mp hc with hc | hc
            · exact bears_cons (hbt c hc)
            · rw [List.mem_singleton.mp hc]; exact bears_cons ⟨_, _, _, hc0⟩
          · intro q hq
            rcases List.mem_cons.mp hq with rfl | hq
            · exact ⟨Nat.ne_of_gt hl16.1, Nat.ne_of_gt hl16.2.2.1, Nat.ne_of_gt hl16.2.2.2.1⟩
            · exact hdis q hq
          · intro q hq
            rcases List.mem_cons.mp hq with rfl | hq
            · exact nf_list
            · exact hnob q hq
        · rename News _ _ _ _ => N15
          rename Fr _ _ _ _ => F15
          rename (¬ (0 : Int) < List.getD _ _ _) => hpos
          rw [Int.toNat_natCast, hl3] at hpos
          k_dflt (refine' con_use (hpopM D h k1 ((L' + 1, oc) :: (tl, listOf (refs tls).toArray k2) :: (D2, listOf us2.toArray k3) :: (ob ++ news ++ own))) ?k1 ?k2 ?k3 ?k4 ?k5 ?kK ?kR ?kd ?ku ?_)
          case k1 => k_asm
          case k2 => k_asm
          case k3 => k_asm
          case k4 => k_asm
          case k5 => k_asm
          case kK => exact rfl
          case kR =>
            refine ⟨rfl, rfl, hh0, by omega, ?_, fun c hc => bears_app3 (hbh c hc)⟩
            intro q hq
            rcases List.mem_cons.mp hq with rfl | hq
            · exact (hoff (L' + 1, oc) (.head _) : L' + 1 ≠ D)
            rcases List.mem_cons.mp hq with rfl | hq
            · exact Nat.ne_of_gt hltl.2.1
            rcases List.mem_cons.mp hq with rfl | hq
            · exact (hoff7 (D, _) (.head _) : D ≠ D2).symm
            rcases List.mem_append.mp hq with hq | hq
            · exact (hdis q hq).1
            · exact honD q hq
          case kd => show dp + 1 + 3 < 900; omega
          case ku => show un + 3 + 8 * 3 < 2000; omega
          clear F15 N15
          rintro r news' h'' tk'' F18 N18 ⟨rfl, rfl⟩
          rw [hc]
          k_steps
          rename News _ _ _ _ => N19
          rename Fr _ _ _ _ => F19
          refine append_any (vs := refs tls) F19 (kst_newsOf N19 led_e) ?_ (by rw [refs_length]; omega) (fun h20 F20 N20 => ?_)
          · intro q hq
            rcases List.mem_cons.mp hq with rfl | hq
            · exact Nat.ne_of_lt hltl.2.1
            rcases List.mem_cons.mp hq with rfl | hq
            · exact Nat.ne_of_lt hltl.2.2.1
            rcases List.mem_cons.mp hq with rfl | hq
            · exact Nat.ne_of_lt hltl.1
            rcases List.mem_append.mp hq with hq | hq
            · exact (hdis q hq).2.1
            · exact honT q hq
          clear N19 F19
          k_steps
          rename News _ _ _ _ => N21
          rename Fr _ _ _ _ => F21
          rw [refs_snoc] at N21
          refine FEnd.mk ((D, listOf (refs (popL gtC h)).toArray (k1 + 1)) :: (L' + 1, oc) :: (tl, listOf (refs (tls ++ [⟨a0, n0, p⟩])).toArray (k2 + 1)) :: (D2, listOf us2.toArray k3) :: (ob ++ news)) F21 N21 ?_ ?_ ?_ ⟨_, left2, _, us2, k1 + 1, k2 + 1, k3, ob, rfl, hus2, ?_, hB hpos, ?_, ?_, hdis, hnob, by kst_all⟩
          · exact own_in4
          · exact led_g
          · intro q hq
            rcases List.mem_cons.mp hq with rfl | hq
            · exact nf_list
            rcases List.mem_cons.mp hq with rfl | hq
            · exact hnf _ (.head _)
            rcases List.mem_cons.mp hq with rfl | hq
            · exact nf_list
            rcases List.mem_cons.mp hq with rfl | hq
            · exact nf_list
            rcases List.mem_append.mp hq with hq | hq
            · exact hnob q hq
            · exact hcls q hq
          · rw [List.length_append, htl]; rfl
          · exact popL_bears hh0 hbh
          · intro c hc
            rcases List.mem_append.mp hc with hc | hc
            · exact hbt c hc
            · rw [List.mem_singleton.mp hc]; exact ⟨_, _, _, hc0⟩
      · clear F9 N10 R9
        rintro h₁ tk₁ m₁ news₁ F10 N10 hcl1 ⟨h, left, tls, us, k1, k2, k3, ob, rfl, hus, htl, hP, hbh, hbt, hdis, hnob, hps⟩
        obtain rfl := hend h left tls hP htl
        dsimp only [envOfC] at F10 N10
        obtain ⟨u2, F11⟩ := fr_ps _ F10 hps
        clear F10 hps
        dsimp only [kstB] at F11
        k_steps
        exact hret _ _ _ _ (by assumption) (kst_newsOf (by assumption) led_h) ⟨_, tl, tls, k2, ob, left, rfl, rfl, htl, hP, hbt, hnob⟩

    · clear F6 N6
      rintro i ys nw v I oI C oC D2 m₂ h₁ tk₁ E' hi ⟨rfl, hys⟩ hv hC hx F7 N7 off7 ne
      obtain ⟨s1, s2, s3, s4, s5, ns, hro⟩ := bearsR_at hrs hi
      have hv' : v = .ref (rs.getD i dR).ad := by
        have h1 : (rrefs rs)[i]? = some v := by simpa using hv
        rw [rrefs_get hi] at h1
        exact (Option.some.inj h1).symm
      subst hv'
      have hcm : ∀ p ∈ news, p ∈ (I, oI) :: (C, oC) :: (D2, LCg.lst ys) :: (D, listOf (refs H0).toArray (refs cs0).length) :: ((L' + 1, oc) :: (objs ++ news)) := fun p hp => .tail _ (.tail _ (.tail _ (.tail _ (.tail _ (List.mem_append.mpr (.inr hp))))))
      walk1
      k_dflt (refine LCgL.ld_own N7 (.tail _ (.head _)) hC hx ?_)
      walk1
      refine item_any (vs := [_, _, _, _, _]) N7 (hcm _ hro) (i := 2) rfl (by simp) rfl ?_
      refine LCg.CompEnd.intro F7 N7 _ (fun p hp => hp) off7 (.inr ⟨_, hraL, rfl, _, rfl⟩) ⟨rfl, ?_⟩
      rw [List.take_add_one, List.getElem?_eq_getElem hi, List.map_append]
      have eg : rs.getD i dR = rs[i] := by rw [List.getD_eq_getElem?_getD, List.getElem?_eq_getElem hi]; rfl
      rw [eg]
      exact hys.append (.cons _ _ .nil)
  · clear F3 N3 R3
    rintro i ys nw v I oI C oC D m₂ h₁ tk₁ E' hi ⟨cs0, objs, rfl, rfl, hcs, hbc, hob⟩ ⟨tv, rfl⟩ hC hx F4 N4 off ne
    rw [Int.zero_add] at hx
    obtain ⟨s1, s2, s3, s4, s5, ns, hro⟩ := bearsR_at hrs hi
    have hcm : ∀ p ∈ news, p ∈ (I, oI) :: (C, oC) :: (D, LCg.lst (refs cs0)) :: ((L' + 1, oc) :: (objs ++ news)) := fun p hp => .tail _ (.tail _ (.tail _ (.tail _ (List.mem_append.mpr (.inr hp)))))
    walk1
    walk1
    walk1
    walk1
    k_dflt (refine lcf_cell N4 rfl (.tail _ (.tail _ (.tail _ (.head _)))) hcell ?_ rfl rfl)
    try dsimp only
    k_dflt (refine LCgL.ld_own N4 (.tail _ (.head _)) hC hx ?_)
    refine item_any N4 (hcm _ hra) (i := i) rfl (by rw [rrefs_length]; omega) (rrefs_get hi) ?_
    walk1
    refine item_any (vs := [_, _, _, _, _]) N4 (hcm _ hro) (i := 0) rfl (by simp) rfl ?_
    walk1
    k_dflt (refine LCgL.ld_own N4 (.tail _ (.head _)) hC hx ?_)
    walk1
    refine newList_K F4 N4 ?_ (by simp [sizeLine_eq])
    intro l h5 F5 N5 hlt
    refine LCg.CompEnd.intro F5 N5 ((L' + 1, oc) :: (((l, listOf #[.int (rs.getD i dR).first s1, .int (i : Int) tv] 0) :: objs) ++ news)) ?_ ?_ trivial ⟨cs0 ++ [⟨l, (rs.getD i dR).first, i⟩], _, ?_, rfl, ?_, ?_, ?_⟩
    · intro p hp
      rcases List.mem_cons.mp hp with rfl | hp
      · exact .tail _ (.head _)
      · rcases List.mem_cons.mp hp with rfl | hp
        · exact .tail _ (.tail _ (.head _))
        · rcases List.mem_cons.mp hp with rfl | hp
          · exact .tail _ (.tail _ (.tail _ (.head _)))
          · rcases List.mem_cons.mp hp with rfl | hp
            · exact .tail _ (.tail _ (.tail _ (.tail _ (.head _))))
            · rcases List.mem_cons.mp hp with rfl | hp
              · exact .head _
              · exact .tail _ (.tail _ (.tail _ (.tail _ (.tail _ hp))))
    · refine LCg.Off3.of ?_
      intro p hp
      rcases List.mem_cons.mp hp with rfl | hp
      · exact LCg.Off3.mem off _ (.head _)
      rcases List.mem_cons.mp hp with rfl | hp
      · exact ⟨Nat.ne_of_gt (hlt (I, oI) (.head _)), Nat.ne_of_gt (hlt (C, oC) (.tail _ (.head _))), Nat.ne_of_gt (hlt (D, _) (.tail _ (.tail _ (.head _))))⟩
      · exact LCg.Off3.mem off p (.tail _ hp)
    · simp [refs]
    · rw [List.map_append, hcs, List.range_succ, List.map_append]; rfl
    · intro c hc
      rcases List.mem_append.mp hc with hc | hc
      · obtain ⟨a1, a2, a3, hm⟩ := hbc c hc
        exact ⟨a1, a2, a3, .tail _ hm⟩
      · rw [List.mem_singleton.mp hc]
        exact ⟨_, _, _, .head _⟩
    · intro p hp
      rcases List.mem_cons.mp hp with rfl | hp
      · exact nf_list
      · exact hob p hp
end Mine

namespace Mine
theorem fillL : (fun (_ : OpenLaw) (_ : Params → Frag) => True) PySem.Challenge.rw_mr0190_01 hd.heap_39 := by k_fill; trivial
local macro_rules | `(tactic| k_steps) => `(tactic| repeat' (first
  | (fail_if_success (with_reducible show wpAny _ _ (exec (Stmt.While _ _ _ _) _) _ _ _)); (fail_if_success (with_reducible show wpAny _ _ (exec (Stmt.For _ _ _ _ _) _) _ _ _)); (fail_if_success (with_reducible show wpAny _ _ (exec (Stmt.Assign _ (Expr.ListComp _ _ _ _) _) _) _ _ _)); (fail_if_success (with_reducible show LCg.CompSrc _ _ _ _ _ _ _ _ _ _ _ _ _ _)); (fail_if_success (with_reducible show wpAny _ _ (pyIter _) (fun _ _ => LoopAtV _ _ _ _ _ _ _ _ _ _ _) _ _)); (fail_if_success (with_reducible show wpAny _ _ (call (Value.ref _) _) _ _ _)); (fail_if_success (with_reducible show wpAny _ _ (eval (Expr.IfExp _ _ _ _) _) _ _ _)); (fail_if_success (with_reducible show Exists _)); (first | (k_unfold; (try dsimp only)) | (k_end; wrow_close) | walk1 | (dsimp only; walk1) | (leave1; walk_say "STEP leave1"; try dsimp only))
  | fail "no step"))

local macro_rules | `(tactic| k_go) => `(tactic| repeat' (first
  | (fail_if_success (with_reducible show wpAny _ _ (exec (Stmt.For _ _ _ _ _) _) _ _ _)); (fail_if_success (with_reducible show wpAny _ _ (eval (Expr.ListComp _ _ _ _) _) _ _ _)); (fail_if_success (with_reducible show LCg.CompSrc _ _ _ _ _ _ _ _ _ _ _ _ _ _)); (fail_if_success (with_reducible show wpAny _ _ (pyIter _) (fun _ _ => LoopAtV _ _ _ _ _ _ _ _ _ _ _) _ _)); (fail_if_success (with_reducible show wpAny _ _ (call (Value.ref _) _) _ _ _)); (fail_if_success (with_reducible show wpAny _ _ (call (Value.builtin "len") _) _ _ _)); (fail_if_success (with_reducible show wpAny _ _ (subscriptTail _ _ (Value.ref _) (Value.int _ _)) _ _ _)); (fail_if_success (with_reducible show wpAny _ _ (compareOp CmpOp.NotIn _ _) _ _ _)); (fail_if_success (with_reducible show Exists _)); (first | (k_unfold; (try dsimp only)) | (k_end; wrow_close) | walk1 | (dsimp only; walk1) | (leave1; walk_say "STEP leave1"; try dsimp only))
  | fail "no step"))

theorem merge_int {prog : Program} {w : World} {A : Around} {E : Value → Shared → Prop} {s : Shared} {h₀ : Heap} {L : Addr} {m : Str → Option Value} {news : List (Addr × Obj)} {Q : Value → Shared → Prop} {e : PySem.Expr} {env : Env} (P : Int → Prop) (_F : Fr h₀ L s.heap m) (_N : News h₀ L s.heap news)
    (h : wpAny (model prog w) A (eval e env) (fun v s' => ∃ x t h' tk', v = .int x t ∧ s' = { s with heap := h', toks := tk' } ∧ Fr h₀ L h' m ∧ News h₀ L h' news ∧ P x) E s)
    (k : ∀ x t h' tk', P x → Fr h₀ L h' m → News h₀ L h' news → Q (.int x t) { s with heap := h', toks := tk' }) : wpAny (model prog w) A (eval e env) Q E s := by
  refine wpAny_mono h (fun v s' hq => ?_) fun _ _ x => x
  obtain ⟨x, t, h', tk', rfl, rfl, F, N, hp⟩ := hq
  exact k x t h' tk' hp F N
theorem fm_bound (x : Int) : 0 ≤ x.fmod (10 ^ Int.toNat 6) ∧ x.fmod (10 ^ Int.toNat 6) < 10 ^ 6 := by
  have e : (10 ^ Int.toNat 6 : Int) = 1000000 := rfl
  rw [e, Int.fmod_eq_emod_of_nonneg _ (by omega)]
  omega
theorem nf_cell {o : Obj} {x : Option Value} (h : o.data = Data.cell x) : NF o := fun vs e => by rw [h] at e; cases e
theorem name3 {h₀ h : Heap} {L : Addr} {a b c d : Addr} {x o3 o2 o1 : Obj} (_N : News h₀ L h [(a, x), (b, o3), (c, o2), (d, o1)]) : ∃ p q r : Obj, p = o3 ∧ q = o2 ∧ r = o1 := ⟨_, _, _, rfl, rfl, rfl⟩
theorem led_i {a b c d e : Addr × Obj} {l : List (Addr × Obj)} : ∀ p ∈ e :: d :: c :: a :: b :: l, p ∈ a :: (l ++ [b, c, d, e]) := by
  intro p hp
  simp only [List.mem_cons, List.mem_append] at hp ⊢
  rcases hp with h | h | h | h | h | h <;> simp [h]
theorem tdU {prog : Program} {w : World} {mean : ExcName → Option Value} {mg mb : Str → Option Value} (up : Bool) (ra : Addr) (rs : List RowD) (nr : Nat) (hlen : rs.length < 50) (T : Nat) (hT : (rs.map (·.count)).sum = (T : Int)) (hT2 : T < 500) (hO : RowsOk up rs) :
   Con prog w mean mg mb 117 5 (fun news vs => vs = [.ref ra, .bool up] ∧ (ra, listOf (rrefs rs).toArray nr) ∈ news ∧ (∀ r ∈ rs, BearsR news r) ∧ ∀ p ∈ news, NF p.2)
     (fun news _ r news' => ∃ ea tl tls k ob left, r = .ref ea ∧ news' = (ea, listOf #[.ref tl, .bool true] 0) :: (tl, listOf (refs tls).toArray k) :: (ob ++ news) ∧ tls.length = T ∧ Inv up rs T [] left tls ∧ (∀ c ∈ tls, Bears ob c) ∧ ∀ p ∈ ob, NF p.2) := by
  cases up
  · exact tdM ra rs nr hlen T hT hT2 (Inv false rs T) (fun cs0 h => inv_init hO hT cs0 h) (fun h left tl I ht => inv_step hO hT hlen I ht) (fun h left tl I ht => inv_end I ht)
  · exact td ra rs nr hlen T hT hT2 (Inv true rs T) (fun cs0 h => inv_init hO hT cs0 h) (fun h left tl I ht => inv_step hO hT hlen I ht) (fun h left tl I ht => inv_end I ht)
theorem led_j {a b c d e f g : Addr × Obj} {l l2 : List (Addr × Obj)} : ∀ p ∈ c :: d :: e :: a :: b :: f :: (l ++ l2), p ∈ a :: b :: (l ++ c :: d :: e :: f :: g :: l2) := by
  intro p hp
  simp only [List.mem_cons, List.mem_append] at hp ⊢
  rcases hp with h | h | h | h | h | h | h | h <;> simp [h]
theorem bearsR_in {l l' : List (Addr × Obj)} {r : RowD} (hb : BearsR l r) (hs : ∀ p ∈ l, p ∈ l') : BearsR l' r := let ⟨a, b, c, d, e, n, h⟩ := hb; ⟨a, b, c, d, e, n, hs _ h⟩
theorem bears_in {l l' : List (Addr × Obj)} {r : Cell} (hb : Bears l r) (hs : ∀ p ∈ l, p ∈ l') : Bears l' r := let ⟨a, b, n, h⟩ := hb; ⟨a, b, n, hs _ h⟩
theorem off_cell {h₀ h : Heap} {L : Addr} {news : List (Addr × Obj)} {c a : Addr} {o : Obj} {its : Array Value} {k : Nat} (N : News h₀ L h news) (hc : (c, o) ∈ news) (hd : ∃ x, o.data = Data.cell x) (hm : (a, listOf its k) ∈ news) : a ≠ c := by
  intro e
  subst e
  have h1 : h.get? a = some o := (N _ hc).1
  have h2 : h.get? a = some (listOf its k) := (N _ hm).1
  rw [h1] at h2
  obtain ⟨x, hx⟩ := hd
  rw [Option.some.inj h2] at hx
  cases hx
theorem tidy {h₀ h : Heap} {L : Addr} {news tail : List (Addr × Obj)} {c2 c3 : Addr} {oF oS : Obj} {tls : List Cell} {rs : List RowD} (N : News h₀ L h news) (hs : ∀ p ∈ tail, p ∈ news) (hF : (c2, oF) ∈ news) (hdF : ∃ x, oF.data = Data.cell x) (hS : (c3, oS) ∈ news) (hdS : ∃ x, oS.data = Data.cell x)
    (hb : ∀ c ∈ tls, Bears tail c) (hr : ∀ r ∈ rs, BearsR tail r) (hn : ∀ p ∈ tail, NF p.2) :
    ∃ lst : List (Addr × Obj), (∀ p ∈ lst, p ∈ tail) ∧ (∀ c ∈ tls, Bears lst c) ∧ (∀ r ∈ rs, BearsR lst r) ∧ ∀ p ∈ lst, NF p.2 ∧ p.1 ≠ c2 ∧ p.1 ≠ c3 := by
  refine ⟨tail.filter (fun p => decide (p.1 ≠ c2 ∧ p.1 ≠ c3)), fun p hp => (List.mem_filter.mp hp).1, ?_, ?_, ?_⟩
  · intro c hc
    obtain ⟨t, u, n, hm⟩ := hb c hc
    exact ⟨t, u, n, List.mem_filter.mpr ⟨hm, decide_eq_true ⟨off_cell N hF hdF (hs _ hm), off_cell N hS hdS (hs _ hm)⟩⟩⟩
  · intro r hr'
    obtain ⟨a, b, c, d, e, n, hm⟩ := hr r hr'
    exact ⟨a, b, c, d, e, n, List.mem_filter.mpr ⟨hm, decide_eq_true ⟨off_cell N hF hdF (hs _ hm), off_cell N hS hdS (hs _ hm)⟩⟩⟩
  · intro p hp
    have h := List.mem_filter.mp hp
    exact ⟨hn p h.1, of_decide_eq_true h.2⟩
theorem led_k {a b c d e f : Addr × Obj} {l l2 : List (Addr × Obj)} (hs : ∀ p ∈ l, p ∈ l2) : ∀ p ∈ a :: b :: c :: d :: e :: f :: l, p ∈ a :: b :: c :: d :: e :: f :: l2 := by
  intro p hp
  simp only [List.mem_cons] at hp ⊢
  rcases hp with h | h | h | h | h | h | h
  all_goals first | (simp [h]; done) | simp [hs p h]
theorem own_rot {a b c d e f : Addr × Obj} {l own : List (Addr × Obj)} : ∀ p ∈ a :: b :: c :: d :: e :: f :: (l ++ own), p ∈ own ++ a :: b :: c :: d :: e :: f :: l := by
  intro p hp
  simp only [List.mem_cons, List.mem_append] at hp ⊢
  rcases hp with h | h | h | h | h | h | h | h <;> simp [h]
theorem led_nf {a b c d e f : Addr × Obj} {l : List (Addr × Obj)} (ha : NF a.2) (hb : NF b.2) (hc : NF c.2) (hd : NF d.2) (he : NF e.2) (hf : NF f.2) (hl : ∀ p ∈ l, NF p.2) : ∀ p ∈ a :: b :: c :: d :: e :: f :: l, NF p.2 := by
  intro p hp
  simp only [List.mem_cons] at hp
  rcases hp with h | h | h | h | h | h | h
  all_goals first | (rw [h]; assumption) | exact hl p h
theorem rf_use {prog : Program} {w : World} {mean : ExcName → Option Value} {mg mb : Str → Option Value} {k : Int} (hk0 : k = 0 ∨ k = 1 ∨ k = 2 ∨ k = 3)
  {dp un : Nat} {gd : Option (List Code)} {cn : Str} {cs : Scope} {a : Addr} {ccd : Value} {cl : List (Str × Addr)} {A₀ : Around} {h₀ : Heap} {L : Addr} {m : Str → Option Value} {news : List (Addr × Obj)} {s : Shared} {t : Tok}
    {Q E : Value → Shared → Prop} (B : Below A₀ h₀ [] h₀) (F : Fr h₀ L s.heap m) (X : (hd.heap_39 w.params).In h₀) (N : News h₀ L s.heap news) (T : Top hd.view_39 (looseW hd.view_39 []) mean mg mb h₀) (hk : cs.kind = .function) (hdp : dp + 5 < 900) (hu : un + 40 < 2000)
    (hret : ∀ h' tk', Fr h₀ L h' m → News h₀ L h' news → Q (.bool true) { s with heap := h', toks := tk' }) :
    wpAny (model prog w) (ktrTop dp un gd cn cs L a ccd cl []) (call (.ref 124) [.int k t]) Q E s := rf k hk0 dp un gd cn cs a ccd cl A₀ h₀ L m news s t Q E B F X N T hk hdp hu hret
theorem upd_a {n : Nat} {o : Obj} : ((n, o) : Addr × Obj).1 ≠ n + 1 := Nat.ne_of_lt (Nat.lt_succ_self n)
theorem upd_c {n : Nat} {o : Obj} : ((n, o) : Addr × Obj).1 ≠ n + 1 + 1 := Nat.ne_of_lt (Nat.lt_succ_of_lt (Nat.lt_succ_self n))
theorem upd_b {n ea tl ra : Nat} {o x y z : Obj} {l own : List (Addr × Obj)} (h1 : ea ≠ n) (h2 : tl ≠ n) (h3 : ra ≠ n) (h4 : ∀ q ∈ l, q.1 ≠ n) (h5 : ∀ q ∈ own, q.1 ≠ n) : ∀ p ∈ (n + 1, o) :: (ea, x) :: (tl, y) :: (ra, z) :: (l ++ own), p.1 ≠ n := by
  intro p hp
  simp only [List.mem_cons, List.mem_append] at hp
  rcases hp with h | h | h | h | h | h
  · rw [h]; exact Nat.ne_of_gt (Nat.lt_succ_self n)
  · rw [h]; exact h1
  · rw [h]; exact h2
  · rw [h]; exact h3
  · exact h4 p h
  · exact h5 p h
theorem upd_d {n ea tl ra : Nat} {x y z : Obj} {l own : List (Addr × Obj)} (h1 : ea ≠ n) (h2 : tl ≠ n) (h3 : ra ≠ n) (h4 : ∀ q ∈ l, q.1 ≠ n) (h5 : ∀ q ∈ own, q.1 ≠ n) : ∀ p ∈ (ea, x) :: (tl, y) :: (ra, z) :: (l ++ own), p.1 ≠ n := by
  intro p hp
  simp only [List.mem_cons, List.mem_append] at hp
  rcases hp with h | h | h | h | h
  · rw [h]; exact h1
  · rw [h]; exact h2
  · rw [h]; exact h3
  · exact h4 p h
  · exact h5 p h
theorem ints_inj : ∀ {a b : List UInt8}, a.map (fun c => (c.toNat : Int)) = b.map (fun c => (c.toNat : Int)) → a = b := by
  intro a
  induction a with
  | nil => intro b h; cases b with
    | nil => rfl
    | cons y r => cases h
  | cons x l ih => intro b h; cases b with
    | nil => cases h
    | cons y r =>
      simp only [List.map_cons, List.cons.injEq] at h
      have e1 : x.toNat = y.toNat := by omega
      rw [UInt8.toNat_inj.mp e1, ih h.2]
theorem picked_tail {pk tb : Array UInt8} {nn wo sz : Nat} {size : Int} {l : List Int} (hs : size = (sz : Int)) (hnw : sz = 1 ∧ nn % 16 = wo ∨ sz = 2 ∧ nn % 256 = wo) (hp : KBw.bInts pk = List.take (l.length - clipAt l.length (-size)) (List.drop (clipAt l.length (-size)) l))
    (hl : l = [65, 65] ++ apN nn) (htb : KBw.bInts tb = ([65 + ((wo / 16 : Nat) : Int), 65 + ((wo % 16 : Nat) : Int)]).drop (2 - sz)) : (pk.toList != tb.toList) = false := by
  have h2 : 2 ≤ l.length := by rw [hl, List.length_append]; simp
  have hc : clipAt l.length (-size) = l.length - sz := by unfold clipAt; rw [if_pos (by omega)]; omega
  rw [hc, List.take_of_length_le (by rw [List.length_drop]; omega), hl, word_tail hnw, ← htb] at hp
  have := ints_inj hp
  rw [this]
  simp
theorem own_last {a b c d e f : Addr × Obj} {l own : List (Addr × Obj)} : ∀ p ∈ own, p ∈ a :: b :: c :: d :: e :: f :: (l ++ own) := fun _ hp => .tail _ (.tail _ (.tail _ (.tail _ (.tail _ (.tail _ (List.mem_append.mpr (.inr hp)))))))
theorem led_l {a b c d e f : Addr × Obj} {l own : List (Addr × Obj)} : ∀ p ∈ a :: b :: c :: d :: e :: f :: l, p ∈ a :: b :: c :: d :: e :: f :: (l ++ own) := led_k (fun _ hp => List.mem_append.mpr (.inl hp))
theorem lawT : PySem.Challenge.rw_mr0190_01.Holds := hd (by
  k_go0
  (all_goals try k_fold)
  rename Shared => s₁
  rename News _ _ _ _ => N0
  rename Fr _ _ _ _ => F0
  rename IntsAre _ _ => hI
  k_steps
  refine merge_int (fun x => 0 ≤ x ∧ x < 10 ^ 6) F0 N0 ?_ ?_
  rotate_left 1
  · intro head th h1 tk1 hh F1 N1
    clear F0 N0
    k_steps
    rename (_ = Data.cell (some (Value.bool _))) => hdU
    generalize hup : (head.fmod 2 == 0) = up at *
    rename News _ _ _ _ => N2
    rename Fr _ _ _ _ => F2
    refine merge_int (fun b => 0 ≤ b ∧ b < 600000 ∧ (up = false → 2000 ≤ b)) F2 N2 ?_ ?_
    rotate_left 1
    · intro b tb h3 tk3 hb F3 N3
      clear F2 N2
      obtain ⟨sa, hsa⟩ := name_it N3
      subst hsa
      rename IntsAre _ (List.take _ _) => hxs
      rename ((List.take _ _).length = _) => hxl
      rename ((List.take _ _).length ≤ _) => hxl2
      generalize hxs' : List.take _ (List.drop 1 _) = xs at hxs hxl hxl2
      have hx6 : xs.length ≤ 6 := by omega
      k_steps
      obtain ⟨hb0, hb1, hb2⟩ := hb
      obtain ⟨oS, oF, oU, e1, e2, e3⟩ := name3 N3
      subst e1 e2 e3
      have nfS : NF oS := nf_cell (by assumption)
      have nfF : NF oF := nf_cell (by assumption)
      have nfU : NF oU := nf_cell (by assumption)
      k_dflt (refine' con_use (ro sa xs b up (by omega) hb0 (by omega)) ?k1 ?k2 ?k3 ?k4 ?k5 ?kK ?kR ?kd ?ku ?_)
      case k1 => k_asm
      case k2 => k_asm
      case k3 => k_asm
      case k4 => k_asm
      case k5 => k_asm
      case kK => exact rfl
      case kR =>
        refine ⟨_, _, _, rfl, .head _, hxs, ?_⟩
        intro q hq
        rcases List.mem_cons.mp hq with rfl | hq
        · exact nf_list
        rcases List.mem_cons.mp hq with rfl | hq
        · exact nfS
        rcases List.mem_cons.mp hq with rfl | hq
        · exact nfF
        rw [List.mem_singleton.mp hq]
        exact nfU
      case kd => exact Nat.le_of_ble_eq_true rfl
      case ku => exact Nat.le_of_ble_eq_true rfl
      clear F3 N3
      rintro r news' h4 tk4 F4 N4 ⟨ra, rs, kr, objs, rfl, rfl, hrs, hbr, hob, hra⟩
      have N5 := kst_newsOf N4 led_i
      clear N4
      k_steps
      have hfact := rows_fact hrs
      have hlen8 : rs.length ≤ 8 := by
        have := congrArg List.length hrs
        simp only [List.length_map, List.length_append, List.length_cons, List.length_nil] at this
        omega
      have hcs := counts_sum hfact
      obtain ⟨T, hT⟩ : ∃ T : Nat, (rs.map (·.count)).sum = (T : Int) := ⟨_, (Int.toNat_of_nonneg hcs.1).symm⟩
      have hT32 : T ≤ 32 := by omega
      have hO := rows_ok hfact hb0 hb1 hb2
      have hfb := first_bnd hfact hb0 hb1 hb2
      rename News _ _ _ _ => N6
      rename Fr _ _ _ _ => F6
      k_dflt (refine' con_use (tdU up ra rs kr (by omega) T hT (by omega) hO) ?k1 ?k2 ?k3 ?k4 ?k5 ?kK ?kR ?kd ?ku ?_)
      case k1 => k_asm
      case k2 => k_asm
      case k3 => k_asm
      case k4 => k_asm
      case k5 => k_asm
      case kK => exact rfl
      case kR =>
        refine ⟨rfl, .tail _ (.tail _ (.tail _ (.head _))), fun r hr => bearsR_in (hbr r hr) (fun p hp => .tail _ (.tail _ (.tail _ (.tail _ (.tail _ hp))))), ?_⟩
        intro q hq
        rcases List.mem_cons.mp hq with rfl | hq
        · exact nfU
        rcases List.mem_cons.mp hq with rfl | hq
        · exact nfF
        rcases List.mem_cons.mp hq with rfl | hq
        · exact nfS
        rcases List.mem_cons.mp hq with rfl | hq
        · exact nf_list
        rcases List.mem_cons.mp hq with rfl | hq
        · exact nf_list
        · exact (hob q hq).2
      case kd => exact Nat.le_of_ble_eq_true rfl
      case ku => exact Nat.le_of_ble_eq_true rfl
      clear F6 N6
      rintro r news' h7 tk7 F7 N7 ⟨ea, tl, tls, kt, ob, left, rfl, rfl, htl, hInv, hbt, hnob⟩
      have hgood := hInv.good
      have N8a := kst_newsOf N7 led_j
      clear N7
      have hcF : ∃ x, oF.data = Data.cell x := ⟨_, by assumption⟩
      have hcS : ∃ x, oS.data = Data.cell x := ⟨_, by assumption⟩
      obtain ⟨lst, hlsub, hlt, hlr, hln⟩ := tidy N8a (tail := ob ++ objs) (tls := tls) (rs := rs) (fun p hp => .tail _ (.tail _ (.tail _ (.tail _ (.tail _ (.tail _ hp)))))) (.tail _ (.head _)) hcF (.tail _ (.tail _ (.head _))) hcS
        (fun c hc => bears_in (hbt c hc) (fun p hp => List.mem_append.mpr (.inl hp))) (fun r hr => bearsR_in (hbr r hr) (fun p hp => List.mem_append.mpr (.inr hp)))
        (fun p hp => (List.mem_append.mp hp).elim (hnob p) (fun hp => (hob p hp).2))
      have N8 := kst_newsOf N8a (led_k hlsub)
      have heF : ea ≠ s₁.heap.objs.size + 1 + 1 := off_cell N8 (.tail _ (.head _)) hcF (.tail _ (.tail _ (.tail _ (.head _))))
      have heS : ea ≠ s₁.heap.objs.size + 1 + 1 + 1 := off_cell N8 (.tail _ (.tail _ (.head _))) hcS (.tail _ (.tail _ (.tail _ (.head _))))
      have htF : tl ≠ s₁.heap.objs.size + 1 + 1 := off_cell N8 (.tail _ (.head _)) hcF (.tail _ (.tail _ (.tail _ (.tail _ (.head _)))))
      have htS : tl ≠ s₁.heap.objs.size + 1 + 1 + 1 := off_cell N8 (.tail _ (.tail _ (.head _))) hcS (.tail _ (.tail _ (.tail _ (.tail _ (.head _)))))
      have hrF : ra ≠ s₁.heap.objs.size + 1 + 1 := off_cell N8 (.tail _ (.head _)) hcF (.tail _ (.tail _ (.tail _ (.tail _ (.tail _ (.head _))))))
      have hrS : ra ≠ s₁.heap.objs.size + 1 + 1 + 1 := off_cell N8 (.tail _ (.tail _ (.head _))) hcS (.tail _ (.tail _ (.tail _ (.tail _ (.tail _ (.head _))))))
      clear N8a hlsub hbt hbr hnob hob hra
      k_go
      rename News _ _ _ _ => N9
      rename Fr _ _ _ _ => F9a
      obtain ⟨u9, F9⟩ := fr_ps [(Str.ofString "rows", .ref ra), (Str.ofString "told", .ref tl)] F9a (by kst_all)
      clear F9a
      dsimp only [kstB] at F9
      refine len_any N9 (.tail _ (.tail _ (.tail _ (.tail _ (.head _))))) (by rw [refs_length]; omega) ?_
      rw [refs_length, htl]
      k_go
      have hraL : (ra, listOf (rrefs rs).toArray kr) ∈ (s₁.heap.objs.size + 1, oU) :: (s₁.heap.objs.size + 1 + 1, oF) :: (s₁.heap.objs.size + 1 + 1 + 1, oS) :: (ea, listOf #[Value.ref tl, Value.bool true] 0) :: (tl, listOf (refs tls).toArray kt) :: (ra, listOf (rrefs rs).toArray kr) :: lst := .tail _ (.tail _ (.tail _ (.tail _ (.tail _ (.head _)))))
      have hin : ∀ p ∈ lst, p ∈ (s₁.heap.objs.size + 1, oU) :: (s₁.heap.objs.size + 1 + 1, oF) :: (s₁.heap.objs.size + 1 + 1 + 1, oS) :: (ea, listOf #[Value.ref tl, Value.bool true] 0) :: (tl, listOf (refs tls).toArray kt) :: (ra, listOf (rrefs rs).toArray kr) :: lst := fun p hp => .tail _ (.tail _ (.tail _ (.tail _ (.tail _ (.tail _ hp)))))
      have hbrL := fun r hr => bearsR_in (hlr r hr) hin
      generalize hled : (s₁.heap.objs.size + 1, oU) :: (s₁.heap.objs.size + 1 + 1, oF) :: (s₁.heap.objs.size + 1 + 1 + 1, oS) :: (ea, listOf #[Value.ref tl, Value.bool true] 0) :: (tl, listOf (refs tls).toArray kt) :: (ra, listOf (rrefs rs).toArray kr) :: lst = led at N9 hraL hin hbrL
      k_dflt (refine LCg.ListComp_U (F₀ := F9) (by with_unfolding_all rfl) (by decide) (by rfl) (by decide) (by rfl) ?_)
      walk1
      refine LCg.CompSrc.ledger (its := (rrefs rs).toArray) (k := kr) rfl F9 N9 hraL (by rw [List.size_toArray, rrefs_length, sizeLine_eq]; omega) (fun gg => ?_)
      rw [show (rrefs rs).toArray.size = rs.length from by rw [List.size_toArray, rrefs_length]]
      refine comp_ind (n := rs.length)
        (fun i ys nw => nw = led ∧ IntsAre ys ((rs.take i).map (·.count)))
        ?_ ?_ rs.length 0 [] _ (by omega) ⟨rfl, .nil⟩
      · rintro ys nw ⟨rfl, hys⟩ D2 h10 tk10 F10 N10 off10
        rw [List.take_length] at hys
        clear F9 N9
        k_go
        subst hled
        rename News _ _ _ _ => N11a
        rename Fr _ _ _ _ => F11
        have N11 := kst_newsOf N11a (fun p hp => .tail _ hp)
        clear N11a
        clear hraL hin hbrL
        k_dflt (refine For_invVF F11 rfl rfl ?_)
        k_go
        refine len_any N11 (.tail _ (.tail _ (.tail _ (.tail _ (.head _))))) (by rw [refs_length]; omega) ?_
        rw [refs_length, htl]
        k_go
        rename IsRange _ _ _ _ _ _ _ _ => R12
        rename News _ _ _ _ => N12
        rename Fr _ _ _ _ => F12
        refine iter_range (n := T) rfl R12 (range_small (by omega)) (range_size _) F12 N12 ?_
          (fun i m₁ news₁ => ∃ oF oS, news₁ = (s₁.heap.objs.size + 1, oU) :: (s₁.heap.objs.size + 1 + 1, oF) :: (s₁.heap.objs.size + 1 + 1 + 1, oS) :: (ea, listOf #[Value.ref tl, Value.bool true] 0) :: (tl, listOf (refs tls).toArray kt) :: (ra, listOf (rrefs rs).toArray kr) :: lst ∧
            (∃ x, oF.data = Data.cell x) ∧ (∃ x, oS.data = Data.cell x) ∧ ∀ q ∈ [(Str.ofString "rows", Value.ref ra), (Str.ofString "told", .ref tl)], m₁ q.1 = some q.2)
          ⟨oF, oS, rfl, ⟨_, by assumption⟩, ⟨_, by assumption⟩, by kst_all⟩ ?_ ?_
        · exact led_nf nfU nfF nfS nf_list nf_list nf_list (fun p hp => (hln p hp).1)
        · clear F12 N12 R12
          rintro i t m₁ news₁ h13 tk13 own hi ⟨oF, oS, rfl, ⟨xF, hxF⟩, ⟨xS, hxS⟩, hps⟩ hcl1 hown F13 N13
          dsimp only [envOfC] at F13 N13
          obtain ⟨u13, F14⟩ := fr_loop _ F13 hps rfl
          clear F13 hps
          dsimp only [kstB] at F14
          rw [show (0 + (i : Int) * 1) = (i : Int) from by omega] at F14
          have N14 := kst_newsOf N13 own_rot
          clear N13
          k_go
          have hit : i < tls.length := by omega
          refine item_any N14 (.tail _ (.tail _ (.tail _ (.tail _ (.head _))))) (i := i) rfl (by rw [refs_length]; omega) (refs_get hit) ?_
          have hin : ∀ p ∈ lst, p ∈ (s₁.heap.objs.size + 1, oU) :: (s₁.heap.objs.size + 1 + 1, oF) :: (s₁.heap.objs.size + 1 + 1 + 1, oS) :: (ea, listOf #[Value.ref tl, Value.bool true] 0) :: (tl, listOf (refs tls).toArray kt) :: (ra, listOf (rrefs rs).toArray kr) :: (lst ++ own) := fun p hp => .tail _ (.tail _ (.tail _ (.tail _ (.tail _ (.tail _ (List.mem_append.mpr (.inl hp)))))))
          have hcb := bears_at hlt hit
          obtain ⟨tc1, tc2, nc, hc0⟩ := bears_in hcb hin
          have hg := hgood i (tls.getD i dC) (by rw [List.getD_eq_getElem?_getD, List.getElem?_eq_getElem hit]; rfl)
          have hownF : ∀ q ∈ own, q.1 ≠ s₁.heap.objs.size + 1 + 1 := fun q hq => news_ne (o := q.2) (o' := oF) N14 (.tail _ (.tail _ (.tail _ (.tail _ (.tail _ (.tail _ (List.mem_append.mpr (.inr hq)))))))) (.tail _ (.head _)) (hown q hq) (nf_cell hxF)
          have hownS : ∀ q ∈ own, q.1 ≠ s₁.heap.objs.size + 1 + 1 + 1 := fun q hq => news_ne (o := q.2) (o' := oS) N14 (.tail _ (.tail _ (.tail _ (.tail _ (.tail _ (.tail _ (List.mem_append.mpr (.inr hq)))))))) (.tail _ (.tail _ (.head _))) (hown q hq) (nf_cell hxS)
          generalize hc : tls.getD i dC = c0 at *
          obtain ⟨a0, n0, p0⟩ := c0
          obtain ⟨p, hp0, hp, ⟨kk, hk0, hk1, hkn⟩, hah⟩ := hg
          dsimp only at hp0 hkn hah hc0
          subst hp0
          k_go
          refine item_any (by assumption) (.tail _ (.tail _ (.tail _ (.tail _ (.tail _ (.head _)))))) (i := p) rfl (by rw [rrefs_length]; omega) (rrefs_get hp) ?_
          have hrb := bearsR_at hlr hp
          obtain ⟨s1, s2, s3, s4, s5, ns, hro⟩ := bearsR_in hrb hin
          have hrf := hfact _ (mem_getD hp)
          generalize hr : rs.getD p dR = r at *
          k_go
          rename News _ _ _ _ => N15
          rename Fr _ _ _ _ => F15
          k_dflt (refine storeX_C F15 N15 rfl (UpdF.tail (upd_a) (UpdF.head (upd_b heF htF hrF (fun q hq => (hln q hq).2.1) hownF))) hxF (fun h16 oF' F16 N16 hF' => ?_) rfl rfl)
          try dsimp only at N16
          clear N15 F15
          k_go
          rename News _ _ _ _ => N17
          rename Fr _ _ _ _ => F17
          k_dflt (refine storeX_C F17 N17 rfl (UpdF.tail (upd_c) (UpdF.tail (upd_a) (UpdF.head (upd_d heS htS hrS (fun q hq => (hln q hq).2.2) hownS)))) hxS (fun h18 oS' F18 N18 hS' => ?_) rfl rfl)
          try dsimp only at N18
          clear N17 F17
          k_go
          rename News _ _ _ _ => N19
          rename Fr _ _ _ _ => F19a
          obtain ⟨K, hK⟩ : ∃ K : Nat, r.count = (K : Int) := ⟨_, (Int.toNat_of_nonneg (by have := hrf.count; omega)).symm⟩
          obtain ⟨u19, F19⟩ := fr_ps [(Str.ofString "rows", .ref ra), (Str.ofString "told", .ref tl), (Str.ofString "turn", .int (↑i) t), (Str.ofString "number", .int n0 tc1), (Str.ofString "place", .int (↑p) tc2), (Str.ofString "count", .int r.count s3), (Str.ofString "worth", .int r.worth s4), (Str.ofString "size", .int r.size s5)] F19a (by kst_all)
          clear F19a
          dsimp only [kstB] at F19
          rw [hK] at F19
          have hK4 : K ≤ 4 := by have := hrf.count; omega
          have hst : 0 < r.step ∧ r.step ≤ 256 := by have := hrf.size; omega
          obtain ⟨hst0, hst1⟩ := hst
          k_dflt (refine LCg.ListComp_U (F₀ := F19) (by with_unfolding_all rfl) (by decide) (by rfl) (by decide) (by rfl) ?_)
          k_go
          rename IsRange _ _ _ _ _ _ _ _ => R20
          rename News _ _ _ _ => N20
          rename Fr _ _ _ _ => F20
          refine LCg.CompSrc.range (n := K) rfl F20 N20 R20 (range_small (k := K) (by omega)) (range_size _) (by rw [sizeLine_eq]; omega) (fun gg => ?_)
          refine comp_ind (n := K)
            (fun j ys nw => nw = (s₁.heap.objs.size + 1, oU) :: (s₁.heap.objs.size + 1 + 1, oF') :: (s₁.heap.objs.size + 1 + 1 + 1, oS') :: (ea, listOf #[Value.ref tl, Value.bool true] 0) :: (tl, listOf (refs tls).toArray kt) :: (ra, listOf (rrefs rs).toArray kr) :: (lst ++ own) ∧ IntsAre ys ((List.range j).map (fun (z : Nat) => item up r (z : Int))))
            ?_ ?_ K 0 [] _ (by omega) ⟨rfl, .nil⟩
          · clear F20 N20 R20
            rintro ys nw ⟨rfl, hys⟩ D3 h21 tk21 F21 N21 off21
            k_go
            refine notin_list_ints (PySem.IsL.isList (N21 _ (.head _)).1) hys ?_
            rw [in_items hK hk0 hk1 hkn]
            have N22 := kst_newsOf N21 (fun p hp => .tail _ hp)
            clear N21
            k_go
            have hib := item_bnd hrf hb0 hb1 hb2 hk0 hk1
            rw [← hkn] at hib
            obtain ⟨hib0, hib1, hib2⟩ := hib
            obtain ⟨nn, rfl⟩ : ∃ nn : Nat, n0 = (nn : Int) := ⟨_, (Int.toNat_of_nonneg hib0).symm⟩
            k_dflt (refine' con_use (i2 nn (by omega)) ?k1 ?k2 ?k3 ?k4 ?k5 ?kK ?kR ?kd ?ku ?_)
            case k1 => k_asm
            case k2 => k_asm
            case k3 => k_asm
            case k4 => k_asm
            case k5 => k_asm
            case kK => exact rfl
            case kR => exact ⟨_, rfl⟩
            case kd => exact Nat.le_of_ble_eq_true rfl
            case ku => exact Nat.le_of_ble_eq_true rfl
            clear F21 N22
            rintro rv news' h23 tk23 F23 N23 ⟨rfl, wb, wt, rfl, hwb⟩
            k_go
            rename News _ _ _ _ => N24
            rename Fr _ _ _ _ => F24
            have hwl := apN_len nn 5 (by omega)
            k_dflt (refine' con_use (rd (apN nn) (by omega) (apN_range nn) (apN_head nn)) ?k1 ?k2 ?k3 ?k4 ?k5 ?kK ?kR ?kd ?ku ?_)
            case k1 => k_asm
            case k2 => k_asm
            case k3 => k_asm
            case k4 => k_asm
            case k5 => k_asm
            case kK => exact rfl
            case kR => exact ⟨_, _, rfl, hwb⟩
            case kd => exact Nat.le_of_ble_eq_true rfl
            case ku => exact Nat.le_of_ble_eq_true rfl
            clear F24 N24
            rintro rv news' h25 tk25 F25 N25 ⟨rfl, tr, rfl⟩
            rw [apN_fold]
            k_go
            · exfalso; omega
            rename News _ _ _ _ => N26
            rename Fr _ _ _ _ => F26
            obtain ⟨sz, hsz, hszw⟩ : ∃ sz : Nat, r.size = (sz : Int) ∧ (sz = 1 ∨ sz = 2) := ⟨r.size.toNat, by have := hrf.size; omega, by have := hrf.size; omega⟩
            obtain ⟨wo, hwo⟩ : ∃ wo : Nat, r.worth = (wo : Int) := ⟨r.worth.toNat, by have := hrf.worth; omega⟩
            have hwo2 : wo < 256 := by have := hrf.worth; omega
            have hnw : sz = 1 ∧ nn % 16 = wo ∨ sz = 2 ∧ nn % 256 = wo := by
              have h1 := hrf.size
              rcases h1 with ⟨e1, e2⟩ | ⟨e1, e2⟩
              · rw [e2, hwo] at hib2; exact .inl ⟨by omega, by omega⟩
              · rw [e2, hwo] at hib2; exact .inr ⟨by omega, by omega⟩
            k_dflt (refine' con_use (Mine.tl wo sz hwo2 hszw) ?k1 ?k2 ?k3 ?k4 ?k5 ?kK ?kR ?kd ?ku ?_)
            case k1 => k_asm
            case k2 => k_asm
            case k3 => k_asm
            case k4 => k_asm
            case k5 => k_asm
            case kK => exact rfl
            case kR => exact ⟨s4, s5, by rw [hwo, hsz]⟩
            case kd => exact Nat.le_of_ble_eq_true rfl
            case ku => exact Nat.le_of_ble_eq_true rfl
            clear F26 N26
            rintro rv news' h27 tk27 F27 N27 ⟨rfl, tb2, tt2, rfl, htb⟩
            rename (KBw.bInts (KBy.picked _ _ _) = _) => hpk
            have hpt := picked_tail hsz hnw hpk rfl htb
            k_go
            have hin' : ∀ p ∈ lst, p ∈ (s₁.heap.objs.size + 1, oU) :: (s₁.heap.objs.size + 1 + 1, oF') :: (s₁.heap.objs.size + 1 + 1 + 1, oS') :: (ea, listOf #[Value.ref tl, Value.bool true] 0) :: (tl, listOf (refs tls).toArray kt) :: (ra, listOf (rrefs rs).toArray kr) :: (lst ++ own) := fun p hp => .tail _ (.tail _ (.tail _ (.tail _ (.tail _ (.tail _ (List.mem_append.mpr (.inl hp)))))))
            rename News _ _ _ _ => N28
            rename Fr _ _ _ _ => F28
            refine item_any N28 (.tail _ (.tail _ (.tail _ (.tail _ (.head _))))) (i := i) rfl (by rw [refs_length]; omega) (refs_get hit) ?_
            rw [hc]
            k_go
            k_dflt (refine' con_use (ah ra rs kr ⟨a0, nn, p⟩ up (by omega) hfb hib0 (by show (nn : Int) < 2 ^ 30; omega)) ?k1 ?k2 ?k3 ?k4 ?k5 ?kK ?kR ?kd ?ku ?_)
            case k1 => k_asm
            case k2 => k_asm
            case k3 => k_asm
            case k4 => k_asm
            case k5 => k_asm
            case kK => exact rfl
            case kR => exact ⟨rfl, .tail _ (.tail _ (.tail _ (.tail _ (.tail _ (.head _))))), fun r hr => bearsR_in (hlr r hr) hin', bears_in hcb hin'⟩
            case kd => exact Nat.le_of_ble_eq_true rfl
            case ku => exact Nat.le_of_ble_eq_true rfl
            clear F28 N28
            rintro rv news' h29 tk29 F29 N29 ⟨rfl, ta, rfl⟩
            rw [hah]
            k_go
            · exfalso; omega
            rename News _ _ _ _ => N30
            rename Fr _ _ _ _ => F30
            refine FEnd.mk ((s₁.heap.objs.size + 1, oU) :: (s₁.heap.objs.size + 1 + 1, oF') :: (s₁.heap.objs.size + 1 + 1 + 1, oS') :: (ea, listOf #[Value.ref tl, Value.bool true] 0) :: (tl, listOf (refs tls).toArray kt) :: (ra, listOf (rrefs rs).toArray kr) :: lst) F30 N30 own_last led_l ?_ ⟨oF', oS', rfl, ⟨_, hF'⟩, ⟨_, hS'⟩, by kst_all⟩
            exact led_nf nfU (nf_cell hF') (nf_cell hS') nf_list nf_list nf_list (fun p hp => (hln p hp).1)
          · clear F20 N20 R20
            rintro j ys nw v I oI C oC D3 m₂ h21 tk21 E' hj ⟨rfl, hys⟩ ⟨tv, rfl⟩ hC hx F21 N21 off21 ne
            rw [Int.zero_add] at hx
            walk1
            k_dflt (refine lcf_cell N21 rfl (.tail _ (.tail _ (.tail _ (.tail _ (.head _))))) hF' ?_ rfl rfl)
            try dsimp only
            walk1
            k_dflt (refine LCgL.ld_own N21 (.tail _ (.head _)) hC hx ?_)
            try dsimp only
            walk1
            walk1
            k_dflt (refine lcf_cell N21 rfl (.tail _ (.tail _ (.tail _ (.head _)))) hdU ?_ rfl rfl)
            try dsimp only
            cases up
            · walk1
              try dsimp only
              walk1
              walk1
              k_dflt (refine lcf_cell N21 rfl (.tail _ (.tail _ (.tail _ (.tail _ (.tail _ (.head _)))))) hS' ?_ rfl rfl)
              try dsimp only
              walk1
              walk1
              walk1
              refine LCg.CompEnd.intro F21 N21 _ (fun p hp => hp) off21 trivial ⟨rfl, ?_⟩
              have e : r.first + (j : Int) * -r.step = item false r (j : Int) := by
                unfold item sgU
                simp only [Bool.false_eq_true, if_false, Int.mul_neg, Int.neg_mul, Int.one_mul]
              rw [e, List.range_succ, List.map_append]
              exact hys.append (.cons _ _ .nil)
            · walk1
              try dsimp only
              walk1
              k_dflt (refine lcf_cell N21 rfl (.tail _ (.tail _ (.tail _ (.tail _ (.tail _ (.head _)))))) hS' ?_ rfl rfl)
              try dsimp only
              walk1
              walk1
              refine LCg.CompEnd.intro F21 N21 _ (fun p hp => hp) off21 trivial ⟨rfl, ?_⟩
              have e : r.first + (j : Int) * r.step = item true r (j : Int) := by
                unfold item sgU
                simp only [if_true, Int.one_mul]
              rw [e, List.range_succ, List.map_append]
              exact hys.append (.cons _ _ .nil)
        · clear F12 N12 R12
          rintro h13 tk13 m₁ news₁ F13 N13 hcl1 ⟨oF, oS, rfl, ⟨xF, hxF⟩, ⟨xS, hxS⟩, hps⟩
          dsimp only [envOfC] at F13 N13
          obtain ⟨u13, F14⟩ := fr_ps _ F13 hps
          clear F13 hps
          dsimp only [kstB] at F14
          k_go
          k_dflt (refine' rf_use (by decide) ?k1 ?k2 ?k3 ?k4 ?k5 ?kK ?kd ?ku ?_)
          case k1 => k_asm
          case k2 => k_asm
          case k3 => k_asm
          case k4 => k_asm
          case k5 => k_asm
          case kK => exact rfl
          case kd => exact Nat.le_of_ble_eq_true rfl
          case ku => exact Nat.le_of_ble_eq_true rfl
          clear F14 N13
          intro h15 tk15 F15 N15
          k_go
          k_dflt (refine' rf_use (by decide) ?k1 ?k2 ?k3 ?k4 ?k5 ?kK ?kd ?ku ?_)
          case k1 => k_asm
          case k2 => k_asm
          case k3 => k_asm
          case k4 => k_asm
          case k5 => k_asm
          case kK => exact rfl
          case kd => exact Nat.le_of_ble_eq_true rfl
          case ku => exact Nat.le_of_ble_eq_true rfl
          clear F15 N15
          intro h16 tk15 F16 N16
          k_go
          k_dflt (refine' rf_use (by decide) ?k1 ?k2 ?k3 ?k4 ?k5 ?kK ?kd ?ku ?_)
          case k1 => k_asm
          case k2 => k_asm
          case k3 => k_asm
          case k4 => k_asm
          case k5 => k_asm
          case kK => exact rfl
          case kd => exact Nat.le_of_ble_eq_true rfl
          case ku => exact Nat.le_of_ble_eq_true rfl
          clear F16 N16
          intro h17 tk15 F17 N17
          k_go
          k_dflt (refine' rf_use (by decide) ?k1 ?k2 ?k3 ?k4 ?k5 ?kK ?kd ?ku ?_)
          case k1 => k_asm
          case k2 => k_asm
          case k3 => k_asm
          case k4 => k_asm
          case k5 => k_asm
          case kK => exact rfl
          case kd => exact Nat.le_of_ble_eq_true rfl
          case ku => exact Nat.le_of_ble_eq_true rfl
          clear F17 N17
          intro h18 tk15 F18 N18
          k_go
      · clear F9 N9
        rintro i ys nw v I oI C oC D2 m₂ h₁ tk₁ E' hi ⟨rfl, hys⟩ hv hC hx F7 N7 off7 ne
        obtain ⟨s1, s2, s3, s4, s5, ns, hro⟩ := bearsR_at hbrL hi
        have hv' : v = .ref (rs.getD i dR).ad := by
          have h1 : (rrefs rs)[i]? = some v := by simpa using hv
          rw [rrefs_get hi] at h1
          exact (Option.some.inj h1).symm
        subst hv'
        walk1
        k_dflt (refine LCgL.ld_own N7 (.tail _ (.head _)) hC hx ?_)
        walk1
        refine item_any (vs := [_, _, _, _, _]) N7 (.tail _ (.tail _ (.tail _ hro))) (i := 2) rfl (by simp) rfl ?_
        refine LCg.CompEnd.intro F7 N7 _ (fun p hp => hp) off7 (.inr ⟨_, hraL, rfl, _, rfl⟩) ⟨rfl, ?_⟩
        rw [List.take_add_one, List.getElem?_eq_getElem hi, List.map_append]
        have eg : rs.getD i dR = rs[i] := by rw [List.getD_eq_getElem?_getD, List.getElem?_eq_getElem hi]; rfl
        rw [eg]
        exact hys.append (.cons _ _ .nil)
    · walk1
      k_steps
      · refine ⟨_, _, _, _, rfl, rfl, F2, N2, ?_⟩
        rw [Int.fdiv_eq_ediv_of_nonneg _ (by omega)]
        rename (up = true) => hut
        rw [hut]
        exact ⟨by omega, by omega, fun e => by cases e⟩
      · refine ⟨_, _, _, _, rfl, rfl, F2, N2, ?_⟩
        rw [Int.fdiv_eq_ediv_of_nonneg _ (by omega)]
        exact ⟨by omega, by omega, fun _ => by omega⟩
  · walk1
    k_steps
    · exact ⟨_, _, _, _, rfl, rfl, F0, N0, fm_bound _⟩
    · exact ⟨_, _, _, _, rfl, rfl, F0, N0, by omega⟩)
end Mine

theorem PySem.Challenge.cw_mr0190_01_holds : PySem.Challenge.rw_mr0190_01.Holds :=
  Mine.lawT
