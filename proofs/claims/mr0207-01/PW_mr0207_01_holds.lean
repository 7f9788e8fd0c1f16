import PyProof.Rows.All
import Wide.All
import OpenK.AllK
import Wide.FinOn
import PyProof.FactsAll.list_2
import Lean
import PySem.Challenge.RW_mr0207_01
set_option Elab.async false

-- LLt
section
open PySem PySem.W PyProof.Rows
namespace Mine
open PySem.AutoSeq1 (wpAny_loadPart')
open PySem.MeetsSeq PySem.MeetsSeq2 PySem.MeetsSeq3 PySem.SeqAt
set_option linter.unusedVariables false
set_option maxRecDepth 100000
set_option maxHeartbeats 4000000

/-- Python's `<` item by item: the first place where the two differ decides -/
def firstLt (e l : Nat → Bool) : Nat → Nat → Bool
  | 0, _ => false
  | k + 1, i => if e i then firstLt e l k (i + 1) else l i

def LtAt (A : Around) (s : Shared) (y x : Value) (b : Bool) : Prop :=
  ∀ (prog : Program) (w : World) (E : Value → Shared → Prop) (Q : Value → Shared → Prop), Q (.bool b) s → wpAny (model prog w) A (richCompare .Lt y x) Q E s

theorem lt_loopAt (l b : Addr) (items items2 : Array Value) (n n2 : Nat) (dd dd2 : Option Addr) (sl sl2 : Array (Option Value)) (hsz : items.size = items2.size) (e lt : Nat → Bool) (k : Nat) :
    ∀ i : Nat, items.size - i = k → Meets (Builtin.«list.__eq__.loop» ⟨[.ref l, .ref b, rawInt i, rawInt 0], []⟩)
      (fun A R s => s.heap.get? l = some { cls := .type "list", dict := dd, data := .seq items n, slots := sl } ∧ s.heap.get? b = some { cls := .type "list", dict := dd2, data := .seq items2 n2, slots := sl2 } ∧
        (∀ j (h1 : j < items.size) (h2 : j < items2.size), EqAt A.in1 s items[j] items2[j] (e j)) ∧
        (∀ j (h1 : j < items.size) (h2 : j < items2.size), LtAt A.in1 s items[j] items2[j] (lt j)) ∧
        R (.ok (.ret (.bool (firstLt e lt (items.size - i) i)))) s) := by
  induction k with
  | zero =>
    intro i hk prog w A R s h
    obtain ⟨hp, g, d, tk, os⟩ := s; obtain ⟨hl, hb, he, hlt', h⟩ := h
    wp_walk using wpAny_loadPart' hl, wpAny_loadPart' hb
    have hi1 : items[((i : Nat) : Int).toNat]? = none := by simp; omega
    have hi2 : items2[((i : Nat) : Int).toNat]? = none := by simp; omega
    rw [hk] at h
    rw [hi1, hi2]
    wp_walk using wpAny_loadPart' hl, wpAny_loadPart' hb
    show R (.ok (.ret (.bool (decide (items.size < items2.size))))) _
    rw [hsz]
    simpa [firstLt] using h
  | succ k ih =>
    intro i hk prog w A R s h
    obtain ⟨hp, g, d, tk, os⟩ := s; obtain ⟨hl, hb, he, hlt', h⟩ := h
    wp_walk using wpAny_loadPart' hl, wpAny_loadPart' hb
    have hlt : i < items.size := by omega
    have hlt2 : i < items2.size := by omega
    have hi1 : items[((i : Nat) : Int).toNat]? = some items[i] := by simp [hlt]
    have hi2 : items2[((i : Nat) : Int).toNat]? = some items2[i] := by simp [hlt2]
    have hc : ((i : Int) + 1) = ((i + 1 : Nat) : Int) := by push_cast; rfl
    have hk' : items.size - (i + 1) = k := by omega
    rw [hk] at h
    rw [hi1, hi2]
    refine wpAny_bind (he i hlt hlt2 prog w _ _ ?_)
    cases hb' : e i with
    | true =>
      simp only [firstLt, hb', if_true] at h
      wp_walk
      rw [hc]
      exact ⟨plainId_quiet plain_eq_loop _, codeAny_builtin entry_eq_loop (by
        rw [Around.under_plainId plain_eq_loop _]
        exact ih (i + 1) (by omega) prog w A R _ ⟨hl, hb, he, hlt', by rw [hk']; exact h⟩)⟩
    | false =>
      simp only [firstLt, hb', Bool.false_eq_true, if_false] at h
      wp_walk using wpAny_loadPart' hl, wpAny_loadPart' hb
      rw [hi1, hi2]
      refine wpAny_bind (hlt' i hlt hlt2 prog w _ _ ?_)
      wp_walk
      exact h

theorem list_ltAt (l b : Addr) (items items2 : Array Value) (n n2 : Nat) (dd dd2 : Option Addr) (sl sl2 : Array (Option Value)) (hsz : items.size = items2.size) (e lt : Nat → Bool) :
    Meets (Builtin.«list.__lt__» ⟨[.ref l, .ref b], []⟩)
      (fun A R s => s.heap.get? l = some { cls := .type "list", dict := dd, data := .seq items n, slots := sl } ∧ s.heap.get? b = some { cls := .type "list", dict := dd2, data := .seq items2 n2, slots := sl2 } ∧
        (∀ j (h1 : j < items.size) (h2 : j < items2.size), EqAt A.in1 s items[j] items2[j] (e j)) ∧
        (∀ j (h1 : j < items.size) (h2 : j < items2.size), LtAt A.in1 s items[j] items2[j] (lt j)) ∧
        R (.ok (.ret (.bool (firstLt e lt items.size 0)))) s) := by
  intro prog w A R s h
  obtain ⟨hp, g, d, tk, os⟩ := s; obtain ⟨hl, hb, he, hlt, h⟩ := h
  have f3 := AutoSeq1.sub_list_list
  wp_walk using wpAny_loadPart' hl, wpAny_loadPart' hb
  exact ⟨plainId_quiet plain_eq_loop _, codeAny_builtin entry_eq_loop (by
    rw [Around.under_plainId plain_eq_loop _]
    exact lt_loopAt l b items items2 n n2 dd dd2 sl sl2 hsz e lt _ 0 rfl prog w A R _ ⟨hl, hb, he, hlt, by simpa using h⟩)⟩

theorem LtAt.lists {A : Around} {s : Shared} {l b : Addr} {items items2 : Array Value} {e lt : Nat → Bool} (hl : s.heap.IsList l items) (hb : s.heap.IsList b items2) (hsz : items.size = items2.size) (hu : A.units < cLine)
    (he : ∀ j (h1 : j < items.size) (h2 : j < items2.size), EqAt A.in1 s items[j] items2[j] (e j))
    (hlt : ∀ j (h1 : j < items.size) (h2 : j < items2.size), LtAt A.in1 s items[j] items2[j] (lt j)) : LtAt A s (.ref l) (.ref b) (firstLt e lt items.size 0) := fun prog w E Q h => by
  obtain ⟨⟨cls, dd, data, sl⟩, ho, hc, n, hd⟩ := id hl
  obtain ⟨⟨cls2, dd2, data2, sl2⟩, ho2, hc2, n2, hd2⟩ := id hb
  simp only at hc hd hc2 hd2
  subst hc hd hc2 hd2
  exact richCompare_meets_room (op := .Lt) ⟨_, ho, rfl⟩ ⟨_, ho2, rfl⟩ F.slot_list_lt F.entry_list_lt (F.args_list_lt_2 _ _) (list_ltAt l b items items2 n n2 dd dd2 sl sl2 hsz e lt)
    ⟨ho, ho2, he, hlt, show Value.bool (firstLt e lt items.size 0) ≠ Value.notImplemented ∧ Q (.bool (firstLt e lt items.size 0)) s from ⟨(fun x => nomatch x), h⟩⟩ hu

theorem LtAt.int_int {A : Around} {s : Shared} (a : Int) (t : Tok) (b : Int) (u : Tok) : LtAt A s (.int a t) (.int b u) (decide (a < b)) := fun prog w E Q h =>
  PyProof.Rows.lt_int (E := E) h
theorem LtAt.str_str {A : Around} {s : Shared} (a : Str) (t : Tok) (b : Str) (u : Tok) : LtAt A s (.str a t) (.str b u) (decide (a.cps.toList < b.cps.toList)) := fun prog w E Q h =>
  PyProof.Rows.lt_str (E := E) h
end Mine
end

-- TopA
section
open PySem PySem.W PyProof.Rows
namespace Mine
set_option maxRecDepth 100000
set_option maxHeartbeats 8000000
open_top hd for PySem.Challenge.rw_mr0207_01
end Mine
end

-- Bas
section
open PySem PySem.W PyProof.Rows
namespace Mine
open PySem.SeqAt
set_option linter.unusedVariables false
set_option maxRecDepth 100000
set_option maxHeartbeats 4000000

structure Ent where
  n : Int
  x : Str
  y : Str
def entLt (e f : Ent) : Bool :=
  if e.n == f.n then (if e.x == f.x then (if e.y == f.y then false else decide (e.y.cps.toList < f.y.cps.toList)) else decide (e.x.cps.toList < f.x.cps.toList)) else decide (e.n < f.n)
def EntIn (news : List (Addr × Obj)) (a : Addr) (e : Ent) : Prop := ∃ t1 t2 t3 k, (a, listOf [Value.int e.n t1, Value.str e.x t2, Value.str e.y t3].toArray k) ∈ news
theorem EntIn.tail {p : Addr × Obj} {news : List (Addr × Obj)} {a : Addr} {e : Ent} : EntIn news a e → EntIn (p :: news) a e
  | ⟨t1, t2, t3, k, h⟩ => ⟨t1, t2, t3, k, .tail _ h⟩

section
variable {prog : Program} {w : World} {A : Around} {E : Value → Shared → Prop} {s : Shared} {h₀ : Heap} {L D : Addr} {m : Str → Option Value} {news news' : List (Addr × Obj)} {vs : List Value} {n : Nat} {k : Int} {t u : Tok} {v : Value}

theorem ent_lt {a b : Addr} {e f : Ent} {Q : Value → Shared → Prop} (N : News h₀ L s.heap news) (h1 : EntIn news a e) (h2 : EntIn news b f) (hu : A.units < cLine) (h : Q (.bool (entLt e f)) s) :
    wpAny (model prog w) A (compareOp .Lt (.ref a) (.ref b)) Q E s := by
  obtain ⟨t1, t2, t3, k, m1⟩ := h1
  obtain ⟨u1, u2, u3, k', m2⟩ := h2
  refine cmp_ofLt ?_
  have l1 : s.heap.IsList a _ := PySem.IsL.isList (n := k) (N _ m1).1
  have l2 : s.heap.IsList b _ := PySem.IsL.isList (n := k') (N _ m2).1
  have := LtAt.lists (A := A) (e := fun j => match j with | 0 => e.n == f.n | 1 => e.x == f.x | _ => e.y == f.y)
    (lt := fun j => match j with | 0 => decide (e.n < f.n) | 1 => decide (e.x.cps.toList < f.x.cps.toList) | _ => decide (e.y.cps.toList < f.y.cps.toList)) l1 l2 rfl hu
    (by
      intro j h1 h2
      match j, h1, h2 with
      | 0, _, _ => exact EqAt.int_int _ _ _ _
      | 1, _, _ => exact EqAt.str_str _ _ _ _
      | 2, _, _ => exact EqAt.str_str _ _ _ _)
    (by
      intro j h1 h2
      match j, h1, h2 with
      | 0, _, _ => exact LtAt.int_int _ _ _ _
      | 1, _, _ => exact LtAt.str_str _ _ _ _
      | 2, _, _ => exact LtAt.str_str _ _ _ _)
  exact this prog w E Q h

theorem item_any {value slice : PySem.Expr} {Q : Value → Shared → Prop} (N : News h₀ L s.heap news) (hm : (D, listOf vs.toArray n) ∈ news) (h0 : 0 ≤ k) (hfit : k < 2 ^ 63) (hx : vs[k.toNat]? = some v) (h : Q v s)
    (hs : subscripted slice false (.ref D) (.int k u) = operate [.ref D, .int k u] (getItem (.ref D) (.int k u)) := by with_unfolding_all rfl) :
    wpAny (model prog w) A (subscriptTail value slice (.ref D) (.int k u)) Q E s :=
  have hL : s.heap.IsList D vs.toArray := PySem.IsL.isList (n := n) (N _ hm).1
  tail_any hL.typeIs slot_list_getitem.lookup (wpAny_getItem_list hL h0 hfit (by simpa using hx) h) hs

theorem get_any {Q : Value → Shared → Prop} (N : News h₀ L s.heap news) (hm : (D, listOf vs.toArray n) ∈ news) (h0 : 0 ≤ k) (hfit : k < 2 ^ 63) (hx : vs[k.toNat]? = some v) (h : Q v s) :
    wpAny (model prog w) A (getItem (.ref D) (.int k u)) Q E s :=
  have hL : s.heap.IsList D vs.toArray := PySem.IsL.isList (n := n) (N _ hm).1
  wpAny_getItem_list hL h0 hfit (by simpa using hx) h

theorem set_any {Q : Unit → Shared → Prop} (F : Fr h₀ L s.heap m) (N : News h₀ L s.heap news) (U : Upd D (listOf vs.toArray n) (listOf (vs.set k.toNat v).toArray n) news news') (h0 : 0 ≤ k) (h1 : k < vs.length) (hfit : k < 2 ^ 63)
    (h : ∀ h', Fr h₀ L h' m → News h₀ L h' news' → Q () { s with heap := h' }) :
    wpAny (model prog w) A (setItem (.ref D) (.int k t) v) Q E s := by
  obtain ⟨pre, post, rfl, rfl, a, b⟩ := U.split
  have z := N (D, listOf vs.toArray n) (List.mem_append.mpr (.inr (.head _)))
  have hs : vs.toArray.size = vs.length := by rw [List.size_toArray]
  refine ki_setAt z.1 h0 hfit (by omega) (h _ (F.change (Heap.SameBut.update ..) z.2.1 z.2.2) (ki_turn _ N a b ?_ ?_))
  · show vs.toArray.setIfInBounds k.toNat v = (vs.set k.toNat v).toArray
    apply Array.toList_inj.mp
    simp
  · simp
end
end Mine
end

-- S1
section
open PySem PySem.W PyProof.Rows
namespace Mine
set_option linter.unusedVariables false
set_option maxRecDepth 100000
set_option maxHeartbeats 8000000
theorem fill : hd.heap_39 = hd.heap_39 ∧ Challenge.rw_mr0207_01 = Challenge.rw_mr0207_01 := by
  k_fill
  exact ⟨rfl, rfl⟩

def sd {α : Type} (lt : α → α → Bool) (new : α) : Nat → List α → Nat → List α
  | 0, xs, pos => xs.set pos new
  | f + 1, xs, pos => if pos = 0 then xs.set pos new else
    match xs[(pos - 1) / 2]? with
    | some p => if lt new p then sd lt new f (xs.set pos p) ((pos - 1) / 2) else xs.set pos new
    | none => xs.set pos new
def siftdown {α : Type} (lt : α → α → Bool) (xs : List α) (pos : Nat) : List α :=
  match xs[pos]? with
  | some new => sd lt new pos xs pos
  | none => xs

theorem sd_fuel {α : Type} {lt : α → α → Bool} {new : α} : ∀ (f g : Nat) (xs : List α) (pos : Nat), pos ≤ f → pos ≤ g → sd lt new f xs pos = sd lt new g xs pos
  | 0, 0, _, _, _, _ => rfl
  | 0, g + 1, xs, pos, h, _ => by
    have : pos = 0 := by omega
    subst this
    simp [sd]
  | f + 1, 0, xs, pos, _, h => by
    have : pos = 0 := by omega
    subst this
    simp [sd]
  | f + 1, g + 1, xs, pos, h1, h2 => by
    unfold sd
    by_cases hp : pos = 0
    · simp [hp]
    · simp only [if_neg hp]
      split
      · split
        · exact sd_fuel f g _ _ (by omega) (by omega)
        · rfl
      · rfl
theorem sd_step {α : Type} {lt : α → α → Bool} {new : α} {xs : List α} {pos : Nat} (h0 : 0 < pos) (hq : (pos - 1) / 2 < xs.length) (hl : lt new xs[(pos - 1) / 2] = true) :
    sd lt new ((pos - 1) / 2) (xs.set pos xs[(pos - 1) / 2]) ((pos - 1) / 2) = sd lt new pos xs pos := by
  obtain ⟨k, rfl⟩ : ∃ k, pos = k + 1 := ⟨pos - 1, by omega⟩
  conv => rhs; unfold sd
  rw [if_neg (by omega), List.getElem?_eq_getElem hq]
  simp only [hl, if_true]
  exact sd_fuel _ _ _ _ (by omega) (by omega)
theorem sd_stop {α : Type} {lt : α → α → Bool} {new : α} {xs : List α} {pos : Nat} (h0 : 0 < pos) (hq : (pos - 1) / 2 < xs.length) (hl : lt new xs[(pos - 1) / 2] = false) :
    sd lt new pos xs pos = xs.set pos new := by
  obtain ⟨k, rfl⟩ : ∃ k, pos = k + 1 := ⟨pos - 1, by omega⟩
  unfold sd
  rw [if_neg (by omega), List.getElem?_eq_getElem hq]
  simp only [hl, Bool.false_eq_true, if_false]
theorem siftdown_def {α : Type} {lt : α → α → Bool} {xs : List α} {pos : Nat} (h : pos < xs.length) : siftdown lt xs pos = sd lt xs[pos] pos xs pos := by
  unfold siftdown; rw [List.getElem?_eq_getElem h]

abbrev refs (as : List Addr) : List Value := as.map Value.ref
theorem refs_get {as : List Addr} {i : Nat} (h : i < as.length) : (refs as)[((i : Nat) : Int).toNat]? = some (.ref as[i]) := by
  rw [Int.toNat_natCast, List.getElem?_map, List.getElem?_eq_getElem h]; rfl
theorem set_ref {prog : Program} {w : World} {A : Around} {E : Value → Shared → Prop} {s : Shared} {h₀ : Heap} {L D : Addr} {m : Str → Option Value} {news news' : List (Addr × Obj)} {as : List Addr} {n i : Nat} {b : Addr} {t : Tok} {Q : Unit → Shared → Prop} (F : Fr h₀ L s.heap m) (N : News h₀ L s.heap news)
    (U : Upd D (listOf (refs as).toArray n) (listOf (refs (as.set i b)).toArray n) news news') (h1 : i < as.length) (hfit : as.length < 1000)
    (h : ∀ h', Fr h₀ L h' m → News h₀ L h' news' → Q () { s with heap := h' }) :
    wpAny (model prog w) A (setItem (.ref D) (.int (i : Nat) t) (.ref b)) Q E s := by
  have e : refs (as.set i b) = (refs as).set ((i : Nat) : Int).toNat (.ref b) := by rw [Int.toNat_natCast, refs, List.map_set]
  rw [e] at U
  exact set_any F N U (by omega) (by rw [List.length_map]; omega) (by omega) h

-- the walk up to a loop
local macro_rules | `(tactic| ktr_unf) => `(tactic| repeat' (
  (fail_if_success (with_reducible show wpAny _ _ (exec (Stmt.While _ _ _ _) _) _ _ _));
  (fail_if_success (with_reducible show wpAny _ _ (exec (Stmt.For _ _ _ _ _) _) _ _ _));
  (fail_if_success (with_reducible show wpAny _ _ (subscriptTail _ _ (Value.ref _) (Value.int _ _)) _ _ _));
  (fail_if_success (with_reducible show wpAny _ _ (compareOp CmpOp.Lt (Value.ref _) (Value.ref _)) _ _ _));
  (fail_if_success (with_reducible show wpAny _ _ (setItem (Value.ref _) (Value.int _ _) _) _ _ _));
  (fail_if_success (with_reducible show KswEnd _ _ _ _ _ _ _ _ _ _ _ _));
  first | (k_unfold; (try dsimp only)) | walk1 | (dsimp only; walk1) | (leave1; walk_say "STEP leave1"; try dsimp only) | fail "no step"))

theorem siftdown_c {w : World} {mean : ExcName → Option Value} {mg mb : Str → Option Value} {dp un : Nat} {gd : Option (List Code)} {cn : Str} {cs : Scope} {a : Addr} {ccd : Value} {cl : List (Str × Addr)} {outer : List Env} {A₀ : Around} {base h₀ : Heap} {L : Addr} {m : Str → Option Value} {s : Shared} {Q E : Value → Shared → Prop}
   {hp : Addr} {as : List Addr} {n : Nat} {rest : List (Addr × Obj)} {D : Addr → Ent} {pos : Nat} {t0 t1 : Tok}
   (B : Below A₀ base outer h₀) (F : Fr h₀ L s.heap m) (X : (hd.heap_39 w.params).In h₀) (N : News h₀ L s.heap ((hp, listOf (refs as).toArray n) :: rest))
   (T : Top hd.view_39 (looseW hd.view_39 []) mean mg mb h₀) (hk : cs.kind = .function)
   (hoff : ∀ p ∈ rest, p.1 ≠ hp) (hD : ∀ a ∈ as, EntIn rest a (D a)) (hpos : pos < as.length) (hlen : as.length < 100)
   (hdp : dp + 1 < recursionLimit) (hun : un + 20 < cLine)
   (ret : ∀ h' tk', Fr h₀ L h' m → News h₀ L h' ((hp, listOf (refs (siftdown (fun a b => entLt (D a) (D b)) as pos)).toArray n) :: rest) → Q .none { s with heap := h', toks := tk' }) :
   wpAny (model Challenge.rw_mr0207_01.row.prog w) (ktrTop dp un gd cn cs L a ccd cl outer) (call (.ref 35) [.ref hp, .int 0 t0, .int pos t1]) Q E s := by
  refine wpAny_call ?_
  k_dflt ktr_enter
  ktr_unf
  refine item_any (by assumption) (by k_mem) (by omega) (by omega) (refs_get hpos) ?_ (by with_unfolding_all rfl)
  ktr_unf
  rename Fr _ _ _ _ => F1
  rename News _ _ _ _ => N1
  refine ksw_while (σ := List Addr × Nat × Tok) (fun c => (hp, listOf (refs c.1).toArray n) :: rest) (fun c => [(Str.ofString "pos", .int (c.2.1 : Nat) c.2.2)]) (fun _ => True) [Str.ofString "parentpos", Str.ofString "parent"]
    (fun c => c.2.1 < as.length ∧ c.1.length = as.length ∧ (∀ a ∈ c.1, EntIn rest a (D a)) ∧ sd (fun a b => entLt (D a) (D b)) as[pos] c.2.1 c.1 c.2.1 = sd (fun a b => entLt (D a) (D b)) as[pos] pos as pos) (fun c => c.2.1) (as, pos, t1) F1 N1 trivial ?_ ⟨hpos, rfl, hD, rfl⟩ ?_ (by with_unfolding_all passes_own)
  · kst_all
  · rintro ⟨as', p', t'⟩ u h tk - ⟨hp1, hl1, hD1, hs1⟩ F2 N2
    dsimp only [kstB] at F2 N2 hp1 hl1 hD1 hs1 ⊢
    ktr_unf
    · rename (0 < (p' : Int)) => hgt
      have e : ((p' : Int) - 1).fdiv (2 ^ Int.toNat 1) = (((p' - 1) / 2 : Nat) : Int) := by
        show ((p' : Int) - 1).fdiv 2 = _
        rw [Int.fdiv_eq_ediv_of_nonneg _ (by omega)]; omega
      simp only [e] at *
      have hq : (p' - 1) / 2 < as'.length := by omega
      refine item_any (by assumption) (by k_mem) (by omega) (by omega) (refs_get hq) ?_ (by with_unfolding_all rfl)
      ktr_unf
      refine ent_lt (by assumption) (EntIn.tail (hD _ (List.getElem_mem hpos))) (EntIn.tail (hD1 _ (List.getElem_mem hq))) (by show un + 3 < cLine; omega) ?_
      ktr_unf
      · rename (entLt _ _ = true) => hlt
        refine set_ref (by assumption) (by assumption) (Upd.head hoff) (by omega) (by omega) ?_
        intro h9 F9 N9
        ktr_unf
        rename Fr _ _ _ _ => F10
        rename News _ _ _ _ => N10
        refine' ksw_end (as'.set p' as'[(p' - 1) / 2], (p' - 1) / 2, ?tk) F10 N10 (fun p h => h) trivial ?ka ?kb ?kc ?kd
        case ka => kst_all
        case kb => ksw_same
        case kc =>
          refine ⟨by dsimp only; omega, by simp [hl1], fun a ha => ?_, ?_⟩
          · rcases List.mem_or_eq_of_mem_set ha with h | h
            · exact hD1 a h
            · exact h ▸ hD1 _ (List.getElem_mem hq)
          · dsimp only
            rw [← hs1]
            exact sd_step (by omega) hq hlt
        case kd => dsimp only; omega
      · rename (entLt _ _ = false) => hlt
        refine set_ref (by assumption) (by assumption) (Upd.head hoff) (by omega) (by omega) ?_
        intro h9 F9 N9
        ktr_unf
        rename News h₀ _ _ _ => kN
        refine ret _ _ (by assumption) ?_
        rw [siftdown_def hpos, ← hs1, sd_stop (by omega) hq hlt]
        exact kN
    · refine set_ref (by assumption) (by assumption) (Upd.head hoff) (by omega) (by omega) ?_
      intro h9 F9 N9
      ktr_unf
      rename News h₀ _ _ _ => kN
      have h0 : p' = 0 := by omega
      refine ret _ _ (by assumption) ?_
      rw [siftdown_def hpos, ← hs1]
      subst h0
      exact kN
end Mine
end

-- S2
section
open PySem PySem.W PyProof.Rows
namespace Mine
set_option linter.unusedVariables false
set_option linter.unusedSimpArgs false
set_option maxRecDepth 100000
set_option maxHeartbeats 8000000

def su {α : Type} (lt : α → α → Bool) : Nat → List α → Nat → List α × Nat
  | 0, xs, pos => (xs, pos)
  | f + 1, xs, pos =>
    match xs[2 * pos + 1]? with
    | none => (xs, pos)
    | some c =>
      match xs[2 * pos + 2]? with
      | none => su lt f (xs.set pos c) (2 * pos + 1)
      | some r => if lt c r then su lt f (xs.set pos c) (2 * pos + 1) else su lt f (xs.set pos r) (2 * pos + 2)
def siftup {α : Type} (lt : α → α → Bool) (xs : List α) : List α :=
  match xs[0]? with
  | some new => siftdown lt ((su lt xs.length xs 0).1.set (su lt xs.length xs 0).2 new) (su lt xs.length xs 0).2
  | none => xs

theorem su_fuel {α : Type} {lt : α → α → Bool} : ∀ (f g : Nat) (xs : List α) (pos : Nat), xs.length - pos ≤ f → xs.length - pos ≤ g → su lt f xs pos = su lt g xs pos
  | 0, 0, _, _, _, _ => rfl
  | 0, g + 1, xs, pos, h, _ => by
    have : xs[2 * pos + 1]? = none := List.getElem?_eq_none (by omega)
    simp [su, this]
  | f + 1, 0, xs, pos, _, h => by
    have : xs[2 * pos + 1]? = none := List.getElem?_eq_none (by omega)
    simp [su, this]
  | f + 1, g + 1, xs, pos, h1, h2 => by
    unfold su
    split
    · rfl
    · rename_i c hc
      have := (List.getElem?_eq_some_iff.mp hc).1
      split
      · exact su_fuel f g _ _ (by rw [List.length_set]; omega) (by rw [List.length_set]; omega)
      · split
        · exact su_fuel f g _ _ (by rw [List.length_set]; omega) (by rw [List.length_set]; omega)
        · exact su_fuel f g _ _ (by rw [List.length_set]; omega) (by rw [List.length_set]; omega)
theorem su_left {α : Type} {lt : α → α → Bool} {xs : List α} {pos n : Nat} (hn : xs.length = n) (hc : 2 * pos + 1 < xs.length) (hr : 2 * pos + 2 < xs.length) (hl : lt xs[2 * pos + 1] xs[2 * pos + 2] = true) :
    su lt (n - (2 * pos + 1)) (xs.set pos xs[2 * pos + 1]) (2 * pos + 1) = su lt (n - pos) xs pos := by
  obtain ⟨k, hk⟩ : ∃ k, n - pos = k + 1 := ⟨n - pos - 1, by omega⟩
  rw [hk]
  conv => rhs; unfold su
  rw [List.getElem?_eq_getElem hc, List.getElem?_eq_getElem hr]
  simp only [hl, if_true]
  exact su_fuel _ _ _ _ (by rw [List.length_set]; omega) (by rw [List.length_set]; omega)
theorem su_right {α : Type} {lt : α → α → Bool} {xs : List α} {pos n : Nat} (hn : xs.length = n) (hc : 2 * pos + 1 < xs.length) (hr : 2 * pos + 2 < xs.length) (hl : lt xs[2 * pos + 1] xs[2 * pos + 2] = false) :
    su lt (n - (2 * pos + 2)) (xs.set pos xs[2 * pos + 2]) (2 * pos + 2) = su lt (n - pos) xs pos := by
  obtain ⟨k, hk⟩ : ∃ k, n - pos = k + 1 := ⟨n - pos - 1, by omega⟩
  rw [hk]
  conv => rhs; unfold su
  rw [List.getElem?_eq_getElem hc, List.getElem?_eq_getElem hr]
  simp only [hl, Bool.false_eq_true, if_false]
  exact su_fuel _ _ _ _ (by rw [List.length_set]; omega) (by rw [List.length_set]; omega)
theorem su_last {α : Type} {lt : α → α → Bool} {xs : List α} {pos n : Nat} (hn : xs.length = n) (hc : 2 * pos + 1 < xs.length) (hr : ¬ 2 * pos + 2 < xs.length) :
    su lt (n - (2 * pos + 1)) (xs.set pos xs[2 * pos + 1]) (2 * pos + 1) = su lt (n - pos) xs pos := by
  obtain ⟨k, hk⟩ : ∃ k, n - pos = k + 1 := ⟨n - pos - 1, by omega⟩
  rw [hk]
  conv => rhs; unfold su
  rw [List.getElem?_eq_getElem hc, List.getElem?_eq_none (by omega)]
  exact su_fuel _ _ _ _ (by rw [List.length_set]; omega) (by rw [List.length_set]; omega)
theorem su_end {α : Type} {lt : α → α → Bool} {xs : List α} {pos f : Nat} (hc : ¬ 2 * pos + 1 < xs.length) : su lt f xs pos = (xs, pos) := by
  cases f with
  | zero => rfl
  | succ f => unfold su; rw [List.getElem?_eq_none (by omega)]
theorem siftup_def {α : Type} {lt : α → α → Bool} {xs ys : List α} {p : Nat} (h : 0 < xs.length) (e : su lt xs.length xs 0 = (ys, p)) : siftup lt xs = siftdown lt (ys.set p xs[0]) p := by
  unfold siftup; rw [List.getElem?_eq_getElem h, e]

theorem len_any {prog : Program} {w : World} {A : Around} {E : Value → Shared → Prop} {s : Shared} {h₀ : Heap} {L D : Addr} {news : List (Addr × Obj)} {vs : List Value} {n : Nat} {Q : Value → Shared → Prop} (N : News h₀ L s.heap news) (hm : (D, listOf vs.toArray n) ∈ news) (hz : vs.length < 1000000)
    (h : Q (.int (vs.length : Nat) (s.toks + 1)) { s with toks := s.toks + 1 + 1 }) : wpAny (model prog w) A (call (.builtin "len") [.ref D]) Q E s := by
  refine Calls.call_len_list (PySem.IsL.isList (n := n) (N _ hm).1) (by rw [List.size_toArray]; omega) ?_
  rw [List.size_toArray]; exact h

-- the walk up to a loop
local macro_rules | `(tactic| ktr_unf) => `(tactic| repeat' (
  (fail_if_success (with_reducible show wpAny _ _ (exec (Stmt.While _ _ _ _) _) _ _ _));
  (fail_if_success (with_reducible show wpAny _ _ (exec (Stmt.For _ _ _ _ _) _) _ _ _));
  (fail_if_success (with_reducible show wpAny _ _ (subscriptTail _ _ (Value.ref _) (Value.int _ _)) _ _ _));
  (fail_if_success (with_reducible show wpAny _ _ (compareOp CmpOp.Lt (Value.ref _) (Value.ref _)) _ _ _));
  (fail_if_success (with_reducible show wpAny _ _ (setItem (Value.ref _) (Value.int _ _) _) _ _ _));
  (fail_if_success (with_reducible show wpAny _ _ (call (Value.builtin "len") _ _) _ _ _));
  (fail_if_success (with_reducible show wpAny _ _ (call (Value.ref _) _ _) _ _ _));
  (fail_if_success (with_reducible show KswEnd _ _ _ _ _ _ _ _ _ _ _ _));
  first | (k_unfold; (try dsimp only)) | walk1 | (dsimp only; walk1) | (leave1; walk_say "STEP leave1"; try dsimp only) | fail "no step"))

theorem siftup_c {w : World} {mean : ExcName → Option Value} {mg mb : Str → Option Value} {dp un : Nat} {gd : Option (List Code)} {cn : Str} {cs : Scope} {a : Addr} {ccd : Value} {cl : List (Str × Addr)} {outer : List Env} {A₀ : Around} {base h₀ : Heap} {L : Addr} {m : Str → Option Value} {s : Shared} {Q E : Value → Shared → Prop}
   {hp : Addr} {as : List Addr} {n : Nat} {rest : List (Addr × Obj)} {D : Addr → Ent} {t0 : Tok}
   (B : Below A₀ base outer h₀) (F : Fr h₀ L s.heap m) (X : (hd.heap_39 w.params).In h₀) (N : News h₀ L s.heap ((hp, listOf (refs as).toArray n) :: rest))
   (T : Top hd.view_39 (looseW hd.view_39 []) mean mg mb h₀) (hk : cs.kind = .function)
   (hoff : ∀ p ∈ rest, p.1 ≠ hp) (hD : ∀ a ∈ as, EntIn rest a (D a)) (hpos : 0 < as.length) (hlen : as.length < 100)
   (hdp : dp + 2 < recursionLimit) (hun : un + 30 < cLine)
   (ret : ∀ h' tk', Fr h₀ L h' m → News h₀ L h' ((hp, listOf (refs (siftup (fun a b => entLt (D a) (D b)) as)).toArray n) :: rest) → Q .none { s with heap := h', toks := tk' }) :
   wpAny (model Challenge.rw_mr0207_01.row.prog w) (ktrTop dp un gd cn cs L a ccd cl outer) (call (.ref 42) [.ref hp, .int 0 t0]) Q E s := by
  refine wpAny_call ?_
  k_dflt ktr_enter
  ktr_unf
  refine len_any (by assumption) (by k_mem) (by rw [List.length_map]; omega) ?_
  rw [List.length_map]
  ktr_unf
  refine item_any (by assumption) (by k_mem) (by omega) (by omega) (refs_get hpos) ?_ (by with_unfolding_all rfl)
  ktr_unf
  rename Fr _ _ _ _ => F1
  rename News _ _ _ _ => N1
  refine' ksw_while (σ := List Addr × Nat × Tok × Tok) (fun c => (hp, listOf (refs c.1).toArray n) :: rest) (fun c => [(Str.ofString "pos", .int (c.2.1 : Nat) c.2.2.1), (Str.ofString "childpos", .int ((2 * c.2.1 + 1 : Nat) : Int) c.2.2.2)]) (fun _ => True) [Str.ofString "rightpos"]
    (fun c => c.2.1 < as.length ∧ c.1.length = as.length ∧ (∀ a ∈ c.1, EntIn rest a (D a)) ∧ su (fun a b => entLt (D a) (D b)) (as.length - c.2.1) c.1 c.2.1 = su (fun a b => entLt (D a) (D b)) as.length as 0) (fun c => as.length - c.2.1) (as, 0, ?ta, ?tb) F1 N1 trivial ?kk ?kp ?kt ?ke
  case kk => kst_all
  case kp => exact ⟨hpos, rfl, hD, rfl⟩
  case ke => with_unfolding_all passes_own
  case kt =>
    rintro ⟨as', p', t', t''⟩ u h tk - ⟨hp1, hl1, hD1, hs1⟩ F2 N2
    dsimp only [kstB] at F2 N2 hp1 hl1 hD1 hs1 ⊢
    have e1 : ((2 * p' + 1 : Nat) : Int) + 1 = ((2 * p' + 2 : Nat) : Int) := by omega
    have e2 : ∀ q : Nat, 2 * (q : Int) + 1 = ((2 * q + 1 : Nat) : Int) := fun q => by omega
    ktr_unf
    · rename ((2 * p' + 1 : Nat) : Int) < (as.length : Int) => hc
      rename ((2 * p' + 1 : Nat) : Int) + 1 < (as.length : Int) => hr
      have hc' : 2 * p' + 1 < as'.length := by omega
      have hr' : 2 * p' + 2 < as'.length := by omega
      rename Fr _ _ _ _ => F3
      rw [e1] at F3
      refine item_any (by assumption) (by k_mem) (by omega) (by omega) (refs_get hc') ?_ (by with_unfolding_all rfl)
      ktr_unf
      refine item_any (by assumption) (by k_mem) (by omega) (by omega) (refs_get hr') ?_ (by with_unfolding_all rfl)
      ktr_unf
      refine ent_lt (by assumption) (EntIn.tail (hD1 _ (List.getElem_mem hc'))) (EntIn.tail (hD1 _ (List.getElem_mem hr'))) (by show un + 3 < cLine; omega) ?_
      ktr_unf
      · rename (entLt _ _ = true) => hlt
        refine item_any (by assumption) (by k_mem) (by omega) (by omega) (refs_get hc') ?_ (by with_unfolding_all rfl)
        ktr_unf
        refine set_ref (by assumption) (by assumption) (Upd.head hoff) (by omega) (by omega) ?_
        intro h9 F9 N9
        ktr_unf
        rename Fr _ _ _ _ => F10
        rename News _ _ _ _ => N10
        simp only [e2] at F10
        refine' ksw_end (as'.set p' as'[2 * p' + 1], 2 * p' + 1, ?tka1, ?tkb1) F10 N10 (fun p h => h) trivial ?ka ?kb ?kc ?kd
        case ka => kst_all
        case kb => ksw_same
        case kc =>
          refine ⟨by dsimp only; omega, by simp [hl1], fun a ha => ?_, ?_⟩
          · rcases List.mem_or_eq_of_mem_set ha with h | h
            · exact hD1 a h
            · exact h ▸ hD1 _ (List.getElem_mem hc')
          · exact Eq.trans (su_left hl1 hc' hr' hlt) hs1
        case kd => dsimp only; omega
      · rename (entLt _ _ = false) => hlt
        refine item_any (by assumption) (by k_mem) (by omega) (by omega) (refs_get hr') ?_ (by with_unfolding_all rfl)
        ktr_unf
        refine set_ref (by assumption) (by assumption) (Upd.head hoff) (by omega) (by omega) ?_
        intro h9 F9 N9
        ktr_unf
        rename Fr _ _ _ _ => F10
        rename News _ _ _ _ => N10
        simp only [e2] at F10
        refine' ksw_end (as'.set p' as'[2 * p' + 2], 2 * p' + 2, ?tka2, ?tkb2) F10 N10 (fun p h => h) trivial ?ka ?kb ?kc ?kd
        case ka => kst_all
        case kb => ksw_same
        case kc =>
          refine ⟨by dsimp only; omega, by simp [hl1], fun a ha => ?_, ?_⟩
          · rcases List.mem_or_eq_of_mem_set ha with h | h
            · exact hD1 a h
            · exact h ▸ hD1 _ (List.getElem_mem hr')
          · exact Eq.trans (su_right hl1 hc' hr' hlt) hs1
        case kd => dsimp only; omega
    · rename ((2 * p' + 1 : Nat) : Int) < (as.length : Int) => hc
      rename ¬ ((2 * p' + 1 : Nat) : Int) + 1 < (as.length : Int) => hr
      have hc' : 2 * p' + 1 < as'.length := by omega
      have hr' : ¬ 2 * p' + 2 < as'.length := by omega
      refine item_any (by assumption) (by k_mem) (by omega) (by omega) (refs_get hc') ?_ (by with_unfolding_all rfl)
      ktr_unf
      refine set_ref (by assumption) (by assumption) (Upd.head hoff) (by omega) (by omega) ?_
      intro h9 F9 N9
      ktr_unf
      rename Fr _ _ _ _ => F10
      rename News _ _ _ _ => N10
      simp only [e2] at F10
      refine' ksw_end (as'.set p' as'[2 * p' + 1], 2 * p' + 1, ?tka3, ?tkb3) F10 N10 (fun p h => h) trivial ?ka ?kb ?kc ?kd
      case ka => kst_all
      case kb => ksw_same
      case kc =>
        refine ⟨by dsimp only; omega, by simp [hl1], fun a ha => ?_, ?_⟩
        · rcases List.mem_or_eq_of_mem_set ha with h | h
          · exact hD1 a h
          · exact h ▸ hD1 _ (List.getElem_mem hc')
        · exact Eq.trans (su_last hl1 hc' hr') hs1
      case kd => dsimp only; omega
    · rename ¬ ((2 * p' + 1 : Nat) : Int) < (as.length : Int) => hc
      refine set_ref (by assumption) (by assumption) (Upd.head hoff) (by omega) (by omega) ?_
      intro h9 F9 N9
      ktr_unf
      refine siftdown_c (D := D) (by assumption) (by assumption) (by assumption) (by assumption) (by assumption) rfl hoff ?_ (by rw [List.length_set]; omega) (by rw [List.length_set]; omega) (by show dp + 1 + 1 < _; omega) (by show un + 3 + 20 < _; omega) ?_
      · intro a ha
        rcases List.mem_or_eq_of_mem_set ha with h | h
        · exact hD1 a h
        · exact h ▸ hD _ (List.getElem_mem hpos)
      · intro h10 tk10 F10 N10
        ktr_unf
        rename News h₀ _ _ _ => kN
        refine ret _ _ (by assumption) ?_
        rw [siftup_def hpos (hs1.symm.trans (su_end (by omega)))]
        exact kN
end Mine
end

-- S3
section
open PySem PySem.W PyProof.Rows
namespace Mine
set_option linter.unusedVariables false
set_option linter.unusedSimpArgs false
set_option maxRecDepth 100000
set_option maxHeartbeats 8000000

-- the walk up to a loop
local macro_rules | `(tactic| ktr_unf) => `(tactic| repeat' (
  (fail_if_success (with_reducible show wpAny _ _ (exec (Stmt.While _ _ _ _) _) _ _ _));
  (fail_if_success (with_reducible show wpAny _ _ (exec (Stmt.For _ _ _ _ _) _) _ _ _));
  (fail_if_success (with_reducible show wpAny _ _ (subscriptTail _ _ (Value.ref _) (Value.int _ _)) _ _ _));
  (fail_if_success (with_reducible show wpAny _ _ (compareOp CmpOp.Lt (Value.ref _) (Value.ref _)) _ _ _));
  (fail_if_success (with_reducible show wpAny _ _ (setItem (Value.ref _) (Value.int _ _) _) _ _ _));
  (fail_if_success (with_reducible show wpAny _ _ (call (Value.builtin "len") _ _) _ _ _));
  (fail_if_success (with_reducible show wpAny _ _ (call (Value.ref _) _ _) _ _ _));
  (fail_if_success (with_reducible show KswEnd _ _ _ _ _ _ _ _ _ _ _ _));
  first | (k_unfold; (try dsimp only)) | walk1 | (dsimp only; walk1) | (leave1; walk_say "STEP leave1"; try dsimp only) | fail "no step"))

theorem heapreplace_c {w : World} {mean : ExcName → Option Value} {mg mb : Str → Option Value} {dp un : Nat} {gd : Option (List Code)} {cn : Str} {cs : Scope} {a : Addr} {ccd : Value} {cl : List (Str × Addr)} {outer : List Env} {A₀ : Around} {base h₀ : Heap} {L : Addr} {m : Str → Option Value} {s : Shared} {Q E : Value → Shared → Prop}
   {hp b : Addr} {as : List Addr} {n : Nat} {rest : List (Addr × Obj)} {D : Addr → Ent}
   (B : Below A₀ base outer h₀) (F : Fr h₀ L s.heap m) (X : (hd.heap_39 w.params).In h₀) (N : News h₀ L s.heap ((hp, listOf (refs as).toArray n) :: rest))
   (T : Top hd.view_39 (looseW hd.view_39 []) mean mg mb h₀) (hk : cs.kind = .function)
   (hoff : ∀ p ∈ rest, p.1 ≠ hp) (hD : ∀ a ∈ as, EntIn rest a (D a)) (hb : EntIn rest b (D b)) (hpos : 0 < as.length) (hlen : as.length < 100)
   (hdp : dp + 3 < recursionLimit) (hun : un + 40 < cLine)
   (ret : ∀ h' tk', Fr h₀ L h' m → News h₀ L h' ((hp, listOf (refs (siftup (fun a b => entLt (D a) (D b)) (as.set 0 b))).toArray n) :: rest) → Q (.ref as[0]) { s with heap := h', toks := tk' }) :
   wpAny (model Challenge.rw_mr0207_01.row.prog w) (ktrTop dp un gd cn cs L a ccd cl outer) (call (.ref 28) [.ref hp, .ref b]) Q E s := by
  refine wpAny_call ?_
  k_dflt ktr_enter
  ktr_unf
  refine item_any (by assumption) (by k_mem) (by omega) (by omega) (refs_get hpos) ?_ (by with_unfolding_all rfl)
  ktr_unf
  refine set_ref (i := 0) (by assumption) (by assumption) (Upd.head hoff) (by omega) (by omega) ?_
  intro h9 F9 N9
  ktr_unf
  refine siftup_c (D := D) (by assumption) (by assumption) (by assumption) (by assumption) (by assumption) rfl hoff ?_ (by rw [List.length_set]; omega) (by rw [List.length_set]; omega) (by show dp + 1 + 2 < _; omega) (by show un + 3 + 30 < _; omega) ?_
  · intro a ha
    rcases List.mem_or_eq_of_mem_set ha with h | h
    · exact hD a h
    · exact h ▸ hb
  · intro h10 tk10 F10 N10
    ktr_unf
    exact ret _ _ (by assumption) (by assumption)

theorem heappush_c {w : World} {mean : ExcName → Option Value} {mg mb : Str → Option Value} {dp un : Nat} {gd : Option (List Code)} {cn : Str} {cs : Scope} {a : Addr} {ccd : Value} {cl : List (Str × Addr)} {outer : List Env} {A₀ : Around} {base h₀ : Heap} {L : Addr} {m : Str → Option Value} {s : Shared} {Q E : Value → Shared → Prop}
   {hp b : Addr} {as : List Addr} {n : Nat} {rest : List (Addr × Obj)} {D : Addr → Ent}
   (B : Below A₀ base outer h₀) (F : Fr h₀ L s.heap m) (X : (hd.heap_39 w.params).In h₀) (N : News h₀ L s.heap ((hp, listOf (refs as).toArray n) :: rest))
   (T : Top hd.view_39 (looseW hd.view_39 []) mean mg mb h₀) (hk : cs.kind = .function)
   (hoff : ∀ p ∈ rest, p.1 ≠ hp) (hD : ∀ a ∈ as, EntIn rest a (D a)) (hb : EntIn rest b (D b)) (hlen : as.length < 99)
   (hdp : dp + 3 < recursionLimit) (hun : un + 40 < cLine)
   (ret : ∀ h' tk', Fr h₀ L h' m → News h₀ L h' ((hp, listOf (refs (siftdown (fun a b => entLt (D a) (D b)) (as ++ [b]) as.length)).toArray (n + 1)) :: rest) → Q .none { s with heap := h', toks := tk' }) :
   wpAny (model Challenge.rw_mr0207_01.row.prog w) (ktrTop dp un gd cn cs L a ccd cl outer) (call (.ref 21) [.ref hp, .ref b]) Q E s := by
  refine wpAny_call ?_
  k_dflt ktr_enter
  ktr_unf
  have e : (refs (as ++ [b])).toArray = (refs as).toArray.push (.ref b) := by simp
  have U : Upd hp (listOf (refs as).toArray n) (listOf ((refs as).toArray.push (.ref b)) (n + 1)) ((hp, listOf (refs as).toArray n) :: rest) ((hp, listOf (refs (as ++ [b])).toArray (n + 1)) :: rest) := by
    rw [e]; exact Upd.head hoff
  refine append_K (by assumption) (by assumption) U ?_ (by rw [List.size_toArray, List.length_map, sizeLine]; omega)
  intro h9 F9 N9
  ktr_unf
  refine len_any (by assumption) (by k_mem) (by rw [List.length_map, List.length_append]; simp; omega) ?_
  have e2 : (((refs (as ++ [b])).length : Nat) : Int) = ((as.length + 1 : Nat) : Int) := by simp
  rw [e2]
  ktr_unf
  have e3 : ((as.length + 1 : Nat) : Int) - 1 = ((as.length : Nat) : Int) := by omega
  rw [e3]
  refine siftdown_c (D := D) (by assumption) (by assumption) (by assumption) (by assumption) (by assumption) rfl hoff ?_ (by simp) (by simp; omega) (by show dp + 1 + 1 < _; omega) (by show un + 3 + 20 < _; omega) ?_
  · intro a ha
    rcases List.mem_append.mp ha with h | h
    · exact hD a h
    · exact (List.mem_singleton.mp h) ▸ hb
  · intro h10 tk10 F10 N10
    ktr_unf
    exact ret _ _ (by assumption) (by assumption)
end Mine
end

-- X1
section
open PySem PySem.W PyProof.Rows
namespace Mine
set_option linter.unusedVariables false
set_option linter.unusedSimpArgs false
set_option maxRecDepth 100000
set_option maxHeartbeats 8000000

def S (l : List Nat) : Str := ⟨l.toArray⟩
theorem S_eq (x : Str) : x = S x.cps.toList := by cases x; simp [S]
def rep1 (c : Nat) (z : List Nat) (l : List Nat) : List Nat := l.flatMap fun k => if k = c then z else [k]
theorem rep1_append (c : Nat) (z a b : List Nat) : rep1 c z (a ++ b) = rep1 c z a ++ rep1 c z b := List.flatMap_append ..
theorem rep1_free (c : Nat) (z : List Nat) : ∀ l : List Nat, c ∉ l → rep1 c z l = l
  | [], _ => rfl
  | k :: r, h => by
    have h1 : ¬ k = c := fun e => h (e ▸ List.mem_cons_self ..)
    have h2 : c ∉ r := fun m => h (List.mem_cons_of_mem _ m)
    unfold rep1
    rw [List.flatMap_cons, if_neg h1]
    exact congrArg (k :: ·) (rep1_free c z r h2)
theorem rep1_join (c : Nat) (z : Str) : ∀ parts : List Str, (∀ p ∈ parts, c ∉ p.cps.toList) → rep1 c z.cps.toList (Str.join ⟨#[c]⟩ parts).cps.toList = (Str.join z parts).cps.toList
  | [], _ => rfl
  | [p], h => rep1_free c _ _ (h p (List.mem_singleton.mpr rfl))
  | p :: q :: r, h => by
    have ih := rep1_join c z (q :: r) fun a ha => h a (List.mem_cons_of_mem _ ha)
    show rep1 c _ (p ++ ⟨#[c]⟩ ++ Str.join ⟨#[c]⟩ (q :: r)).cps.toList = (p ++ z ++ Str.join z (q :: r)).cps.toList
    simp only [Str.cps_append, Array.toList_append]
    rw [rep1_append, rep1_append, ih, rep1_free c _ _ (h p (List.mem_cons_self ..))]
    have : rep1 c z.cps.toList [c] = z.cps.toList := by simp [rep1]
    rw [this]
theorem replace_S (c : Nat) (z : Str) (l : List Nat) : Txt.replace (S l) ⟨#[c]⟩ z = S (rep1 c z.cps.toList l) := by
  have e : (Txt.replace (S l) ⟨#[c]⟩ z).cps.toList = rep1 c z.cps.toList l := by
    rw [StrLaws.replace_one, ← rep1_join c z _ (StrLaws.split_free (S l) c), StrLaws.join_split]
    simp [S]
  rw [S_eq (Txt.replace (S l) ⟨#[c]⟩ z), e]

abbrev escScope : Scope := {
              kind := PySem.ScopeKind.function,
              names := [
                (PySem.Str.ofString "text", PySem.NameKind.local),
                (PySem.Str.ofString "TypeError", PySem.NameKind.globalImplicit),
                (PySem.Str.ofString "AttributeError", PySem.NameKind.globalImplicit),
                (PySem.Str.ofString "_raise_serialization_error", PySem.NameKind.globalImplicit)],
              isGenerator := false,
              isCoroutine := false }

theorem esc_if {prog : Program} {w : World} {A : Around} {E : Value → Shared → Prop} {Q : Flow → Shared → Prop} {s : Shared} {h₀ : Heap} {name : Str} {L a : Addr} {cd : Value} {m : Str → Option Value} {news : List (Addr × Obj)}
    {l : List Nat} {t : Tok} {c : Nat} {cs zs : Str} {p1 p2 p3 p4 p5 p6 p7 p8 p9 p10 p11 : Pos}
    (F : Fr h₀ L s.heap m) (X : (hd.heap_39 w.params).In h₀) (N : News h₀ L s.heap news) (hm : m (Str.ofString "text") = some (.str (S l) t)) (hlen : l.length ≤ 1048576) (hc : cs = ⟨#[c]⟩) (hz : zs.length ≤ 14) (hcz : (cs == zs) = false)
    (h : ∀ h' tk t', Fr h₀ L h' (fun y => if y = Str.ofString "text" then some (.str (S (rep1 c zs.cps.toList l)) t') else m y) → News h₀ L h' news → Q .next { s with heap := h', toks := tk }) {pl : Sem Bool}
    (he : eval (((Expr.Name (Str.ofString "text") p5).Attribute (Str.ofString "replace") p6).Call
          [Expr.Constant (Const.str cs) 0 p7, Expr.Constant (Const.str zs) 0 p8] [] p9) (envOf name escScope L a cd) = (do
      let ov ← eval (Expr.Name (Str.ofString "text") p5) (envOf name escScope L a cd)
      standAt p6.atName
      let (f, first) ← holding [ov] (getMethod ov (Str.ofString "replace") pl)
      callWith p9 f first (backTo p9 (starEach [Expr.Constant (Const.str cs) 0 p7, Expr.Constant (Const.str zs) 0 p8] (envOf name escScope L a cd))) []) := by with_unfolding_all rfl) :
    wpAny (model prog w) A (exec (Stmt.If ((Expr.Constant (Const.str cs) 0 p1).Compare [CmpOp.In] [Expr.Name (Str.ofString "text") p2] p3)
      [Stmt.Assign [Expr.Name (Str.ofString "text") p4]
        (((Expr.Name (Str.ofString "text") p5).Attribute (Str.ofString "replace") p6).Call
          [Expr.Constant (Const.str cs) 0 p7, Expr.Constant (Const.str zs) 0 p8] [] p9)
        p10]
    [] p11) (envOf name escScope L a cd)) Q E s := by
  walk1
  walk1
  walk1
  refine ld F hm ?_
  subst hc
  refine in_str ?_
  rw [StrLaws.found_one]
  refine wpAny_truthy_bool ?_
  have eS : (S l).cps.toList = l := by simp [S]
  rw [eS]
  by_cases hin : c ∈ l
  · rw [if_pos (decide_eq_true hin)]
    have em : m = fun y => if y = Str.ofString "text" then some (.str (S l) t) else m y := by
      funext y
      by_cases hy : y = Str.ofString "text"
      · rw [if_pos hy, hy, hm]
      · rw [if_neg hy]
    rw [em] at F
    repeat' ((fail_if_success (with_reducible show wpAny _ _ (call (Value.builtin "str.replace") _ _) _ _ _)); walk1)
    refine MethodCall_ ?_ he
    repeat' ((fail_if_success (with_reducible show wpAny _ _ (call (Value.builtin "str.replace") _ _) _ _ _)); walk1)
    refine SC.replaceW (Nat.succ_ne_zero _) (Nat.succ_ne_zero _) (Nat.ne_of_lt (Nat.lt_succ_self _)) hcz (by show l.toArray.size ≤ _; rw [List.size_toArray]; omega) hz ?_
    intro t' k
    rw [replace_S]
    repeat' walk1
    rename Fr _ _ _ _ => F3
    rename News _ _ _ _ => N3
    refine h _ _ t' ?_ N3
    have e3 : (fun y => if y = Str.ofString "text" then some (Value.str (S (rep1 c zs.cps.toList l)) t') else if y = Str.ofString "text" then some (.str (S l) t) else m y) = fun y => if y = Str.ofString "text" then some (Value.str (S (rep1 c zs.cps.toList l)) t') else m y := by
      funext y
      by_cases hy : y = Str.ofString "text"
      · rw [if_pos hy, if_pos hy]
      · rw [if_neg hy, if_neg hy, if_neg hy]
    rw [← e3]
    exact F3
  · rw [if_neg (by simp [hin])]
    refine wpAny_execs_nil ?_
    refine h _ _ t ?_ N
    have em : m = fun y => if y = Str.ofString "text" then some (.str (S (rep1 c zs.cps.toList l)) t) else m y := by
      funext y
      by_cases hy : y = Str.ofString "text"
      · rw [if_pos hy, hy, hm, rep1_free c _ _ hin]
      · rw [if_neg hy]
    rw [← em]
    exact F
end Mine
end

-- X2
section
open PySem PySem.W PyProof.Rows
namespace Mine
set_option linter.unusedVariables false
set_option linter.unusedSimpArgs false
set_option maxRecDepth 100000
set_option maxHeartbeats 8000000

local macro_rules | `(tactic| ktr_unf) => `(tactic| repeat' (
  (fail_if_success (with_reducible show wpAny _ _ (exec (Stmt.If _ _ _ _) _) _ _ _));
  first | (k_unfold; (try dsimp only)) | walk1 | (dsimp only; walk1) | (leave1; walk_say "STEP leave1"; try dsimp only) | fail "no step"))

theorem rep1_len (c : Nat) (z : List Nat) (hz : 1 ≤ z.length) : ∀ l : List Nat, (rep1 c z l).length ≤ l.length * z.length
  | [] => by simp [rep1]
  | k :: r => by
    have ih := rep1_len c z hz r
    unfold rep1 at ih ⊢
    rw [List.flatMap_cons, List.length_append, List.length_cons, Nat.add_mul, Nat.one_mul, Nat.add_comm]
    have : (if k = c then z else [k]).length ≤ z.length := by split <;> simp <;> omega
    omega
theorem rep1_le {c : Nat} {z l : List Nat} {a b d : Nat} (hl : l.length ≤ a) (hz : z.length = b) (hb : 1 ≤ b) (hd : a * b ≤ d) : (rep1 c z l).length ≤ d :=
  Nat.le_trans (rep1_len c z (hz ▸ hb) l) (by rw [hz]; exact Nat.le_trans (Nat.mul_le_mul_right _ hl) hd)

def tabs : Nat → List (Nat × List Nat)
  | 0 => [(38, [38, 97, 109, 112, 59]), (60, [38, 108, 116, 59]), (62, [38, 103, 116, 59])]
  | 1 => [(38, [38, 97, 109, 112, 59]), (60, [38, 108, 116, 59]), (62, [38, 103, 116, 59]), (34, [38, 113, 117, 111, 116, 59]), (13, [38, 35, 49, 51, 59]), (10, [38, 35, 49, 48, 59]), (9, [38, 35, 48, 57, 59])]
  | 2 => [(38, [38, 97, 109, 112, 59]), (62, [38, 103, 116, 59]), (34, [38, 113, 117, 111, 116, 59])]
  | 3 => [(38, [38, 97, 109, 112, 59]), (60, [38, 108, 116, 59]), (62, [38, 103, 116, 59]), (13, [38, 35, 120, 68, 59])]
  | _ => [(38, [38, 97, 109, 112, 59]), (60, [38, 108, 116, 59]), (34, [38, 113, 117, 111, 116, 59]), (9, [38, 35, 120, 57, 59]), (10, [38, 35, 120, 65, 59]), (13, [38, 35, 120, 68, 59])]
def escP (k : Nat) (l : List Nat) : List Nat := (tabs k).foldl (fun l p => rep1 p.1 p.2 l) l

theorem z_amp : (Str.ofString "&amp;").cps.toList = [38, 97, 109, 112, 59] := by decide +kernel
theorem z_lt : (Str.ofString "&lt;").cps.toList = [38, 108, 116, 59] := by decide +kernel
theorem z_gt : (Str.ofString "&gt;").cps.toList = [38, 103, 116, 59] := by decide +kernel
theorem z_quot : (Str.ofString "&quot;").cps.toList = [38, 113, 117, 111, 116, 59] := by decide +kernel
theorem z_13 : (Str.ofString "&#13;").cps.toList = [38, 35, 49, 51, 59] := by decide +kernel
theorem z_10 : (Str.ofString "&#10;").cps.toList = [38, 35, 49, 48, 59] := by decide +kernel
theorem z_09 : (Str.ofString "&#09;").cps.toList = [38, 35, 48, 57, 59] := by decide +kernel
theorem z_xD : (Str.ofString "&#xD;").cps.toList = [38, 35, 120, 68, 59] := by decide +kernel
theorem z_x9 : (Str.ofString "&#x9;").cps.toList = [38, 35, 120, 57, 59] := by decide +kernel
theorem z_xA : (Str.ofString "&#xA;").cps.toList = [38, 35, 120, 65, 59] := by decide +kernel

theorem esc0_c {w : World} {mean : ExcName → Option Value} {mg mb : Str → Option Value} {dp un : Nat} {gd : Option (List Code)} {cn : Str} {cs : Scope} {a : Addr} {ccd : Value} {cl : List (Str × Addr)} {outer : List Env} {A₀ : Around} {base h₀ : Heap} {L : Addr} {m : Str → Option Value} {s : Shared} {Q E : Value → Shared → Prop}
   {news : List (Addr × Obj)} {l : List Nat} {t : Tok}
   (B : Below A₀ base outer h₀) (F : Fr h₀ L s.heap m) (X : (hd.heap_39 w.params).In h₀) (N : News h₀ L s.heap news)
   (T : Top hd.view_39 (looseW hd.view_39 []) mean mg mb h₀) (hk : cs.kind = .function)
   (hlen : l.length ≤ 20) (hdp : dp + 3 < recursionLimit) (hun : un + 40 < cLine)
   (ret : ∀ h' tk' t', Fr h₀ L h' m → News h₀ L h' news → Q (.str (S (escP 0 l)) t') { s with heap := h', toks := tk' }) :
   wpAny (model Challenge.rw_mr0207_01.row.prog w) (ktrTop dp un gd cn cs L a ccd cl outer) (call (.ref 56) [.str (S l) t]) Q E s := by
  refine wpAny_call ?_
  k_dflt ktr_enter
  ktr_unf
  rename Fr _ _ _ _ => F0
  rename News _ _ _ _ => N0
  have b0 : l.length ≤ 20 := hlen
  refine esc_if (c := 38) F0 (by assumption) N0 rfl (Nat.le_trans b0 (by decide)) (by decide +kernel) (by decide +kernel) (by decide +kernel) ?_
  intro h1 tk1 t1 F1 N1
  rw [z_amp] at F1
  have b1 := rep1_le (c := 38) (z := [38, 97, 109, 112, 59]) b0 rfl (by decide) (Nat.le_refl _)
  ktr_unf
  refine esc_if (c := 60) F1 (by assumption) N1 rfl (Nat.le_trans b1 (by decide)) (by decide +kernel) (by decide +kernel) (by decide +kernel) ?_
  intro h2 tk2 t2 F2 N2
  rw [z_lt] at F2
  have b2 := rep1_le (c := 60) (z := [38, 108, 116, 59]) b1 rfl (by decide) (Nat.le_refl _)
  ktr_unf
  refine esc_if (c := 62) F2 (by assumption) N2 rfl (Nat.le_trans b2 (by decide)) (by decide +kernel) (by decide +kernel) (by decide +kernel) ?_
  intro h3 tk3 t3 F3 N3
  rw [z_gt] at F3
  have b3 := rep1_le (c := 62) (z := [38, 103, 116, 59]) b2 rfl (by decide) (Nat.le_refl _)
  ktr_unf
  exact ret _ _ _ (by assumption) (by assumption)

theorem esc1_c {w : World} {mean : ExcName → Option Value} {mg mb : Str → Option Value} {dp un : Nat} {gd : Option (List Code)} {cn : Str} {cs : Scope} {a : Addr} {ccd : Value} {cl : List (Str × Addr)} {outer : List Env} {A₀ : Around} {base h₀ : Heap} {L : Addr} {m : Str → Option Value} {s : Shared} {Q E : Value → Shared → Prop}
   {news : List (Addr × Obj)} {l : List Nat} {t : Tok}
   (B : Below A₀ base outer h₀) (F : Fr h₀ L s.heap m) (X : (hd.heap_39 w.params).In h₀) (N : News h₀ L s.heap news)
   (T : Top hd.view_39 (looseW hd.view_39 []) mean mg mb h₀) (hk : cs.kind = .function)
   (hlen : l.length ≤ 20) (hdp : dp + 3 < recursionLimit) (hun : un + 40 < cLine)
   (ret : ∀ h' tk' t', Fr h₀ L h' m → News h₀ L h' news → Q (.str (S (escP 1 l)) t') { s with heap := h', toks := tk' }) :
   wpAny (model Challenge.rw_mr0207_01.row.prog w) (ktrTop dp un gd cn cs L a ccd cl outer) (call (.ref 63) [.str (S l) t]) Q E s := by
  refine wpAny_call ?_
  k_dflt ktr_enter
  ktr_unf
  rename Fr _ _ _ _ => F0
  rename News _ _ _ _ => N0
  have b0 : l.length ≤ 20 := hlen
  refine esc_if (c := 38) F0 (by assumption) N0 rfl (Nat.le_trans b0 (by decide)) (by decide +kernel) (by decide +kernel) (by decide +kernel) ?_
  intro h1 tk1 t1 F1 N1
  rw [z_amp] at F1
  have b1 := rep1_le (c := 38) (z := [38, 97, 109, 112, 59]) b0 rfl (by decide) (Nat.le_refl _)
  ktr_unf
  refine esc_if (c := 60) F1 (by assumption) N1 rfl (Nat.le_trans b1 (by decide)) (by decide +kernel) (by decide +kernel) (by decide +kernel) ?_
  intro h2 tk2 t2 F2 N2
  rw [z_lt] at F2
  have b2 := rep1_le (c := 60) (z := [38, 108, 116, 59]) b1 rfl (by decide) (Nat.le_refl _)
  ktr_unf
  refine esc_if (c := 62) F2 (by assumption) N2 rfl (Nat.le_trans b2 (by decide)) (by decide +kernel) (by decide +kernel) (by decide +kernel) ?_
  intro h3 tk3 t3 F3 N3
  rw [z_gt] at F3
  have b3 := rep1_le (c := 62) (z := [38, 103, 116, 59]) b2 rfl (by decide) (Nat.le_refl _)
  ktr_unf
  refine esc_if (c := 34) F3 (by assumption) N3 rfl (Nat.le_trans b3 (by decide)) (by decide +kernel) (by decide +kernel) (by decide +kernel) ?_
  intro h4 tk4 t4 F4 N4
  rw [z_quot] at F4
  have b4 := rep1_le (c := 34) (z := [38, 113, 117, 111, 116, 59]) b3 rfl (by decide) (Nat.le_refl _)
  ktr_unf
  refine esc_if (c := 13) F4 (by assumption) N4 rfl (Nat.le_trans b4 (by decide)) (by decide +kernel) (by decide +kernel) (by decide +kernel) ?_
  intro h5 tk5 t5 F5 N5
  rw [z_13] at F5
  have b5 := rep1_le (c := 13) (z := [38, 35, 49, 51, 59]) b4 rfl (by decide) (Nat.le_refl _)
  ktr_unf
  refine esc_if (c := 10) F5 (by assumption) N5 rfl (Nat.le_trans b5 (by decide)) (by decide +kernel) (by decide +kernel) (by decide +kernel) ?_
  intro h6 tk6 t6 F6 N6
  rw [z_10] at F6
  have b6 := rep1_le (c := 10) (z := [38, 35, 49, 48, 59]) b5 rfl (by decide) (Nat.le_refl _)
  ktr_unf
  refine esc_if (c := 9) F6 (by assumption) N6 rfl (Nat.le_trans b6 (by decide)) (by decide +kernel) (by decide +kernel) (by decide +kernel) ?_
  intro h7 tk7 t7 F7 N7
  rw [z_09] at F7
  have b7 := rep1_le (c := 9) (z := [38, 35, 48, 57, 59]) b6 rfl (by decide) (Nat.le_refl _)
  ktr_unf
  exact ret _ _ _ (by assumption) (by assumption)

theorem esc2_c {w : World} {mean : ExcName → Option Value} {mg mb : Str → Option Value} {dp un : Nat} {gd : Option (List Code)} {cn : Str} {cs : Scope} {a : Addr} {ccd : Value} {cl : List (Str × Addr)} {outer : List Env} {A₀ : Around} {base h₀ : Heap} {L : Addr} {m : Str → Option Value} {s : Shared} {Q E : Value → Shared → Prop}
   {news : List (Addr × Obj)} {l : List Nat} {t : Tok}
   (B : Below A₀ base outer h₀) (F : Fr h₀ L s.heap m) (X : (hd.heap_39 w.params).In h₀) (N : News h₀ L s.heap news)
   (T : Top hd.view_39 (looseW hd.view_39 []) mean mg mb h₀) (hk : cs.kind = .function)
   (hlen : l.length ≤ 20) (hdp : dp + 3 < recursionLimit) (hun : un + 40 < cLine)
   (ret : ∀ h' tk' t', Fr h₀ L h' m → News h₀ L h' news → Q (.str (S (escP 2 l)) t') { s with heap := h', toks := tk' }) :
   wpAny (model Challenge.rw_mr0207_01.row.prog w) (ktrTop dp un gd cn cs L a ccd cl outer) (call (.ref 70) [.str (S l) t]) Q E s := by
  refine wpAny_call ?_
  k_dflt ktr_enter
  ktr_unf
  rename Fr _ _ _ _ => F0
  rename News _ _ _ _ => N0
  have b0 : l.length ≤ 20 := hlen
  refine esc_if (c := 38) F0 (by assumption) N0 rfl (Nat.le_trans b0 (by decide)) (by decide +kernel) (by decide +kernel) (by decide +kernel) ?_
  intro h1 tk1 t1 F1 N1
  rw [z_amp] at F1
  have b1 := rep1_le (c := 38) (z := [38, 97, 109, 112, 59]) b0 rfl (by decide) (Nat.le_refl _)
  ktr_unf
  refine esc_if (c := 62) F1 (by assumption) N1 rfl (Nat.le_trans b1 (by decide)) (by decide +kernel) (by decide +kernel) (by decide +kernel) ?_
  intro h2 tk2 t2 F2 N2
  rw [z_gt] at F2
  have b2 := rep1_le (c := 62) (z := [38, 103, 116, 59]) b1 rfl (by decide) (Nat.le_refl _)
  ktr_unf
  refine esc_if (c := 34) F2 (by assumption) N2 rfl (Nat.le_trans b2 (by decide)) (by decide +kernel) (by decide +kernel) (by decide +kernel) ?_
  intro h3 tk3 t3 F3 N3
  rw [z_quot] at F3
  have b3 := rep1_le (c := 34) (z := [38, 113, 117, 111, 116, 59]) b2 rfl (by decide) (Nat.le_refl _)
  ktr_unf
  exact ret _ _ _ (by assumption) (by assumption)

theorem esc3_c {w : World} {mean : ExcName → Option Value} {mg mb : Str → Option Value} {dp un : Nat} {gd : Option (List Code)} {cn : Str} {cs : Scope} {a : Addr} {ccd : Value} {cl : List (Str × Addr)} {outer : List Env} {A₀ : Around} {base h₀ : Heap} {L : Addr} {m : Str → Option Value} {s : Shared} {Q E : Value → Shared → Prop}
   {news : List (Addr × Obj)} {l : List Nat} {t : Tok}
   (B : Below A₀ base outer h₀) (F : Fr h₀ L s.heap m) (X : (hd.heap_39 w.params).In h₀) (N : News h₀ L s.heap news)
   (T : Top hd.view_39 (looseW hd.view_39 []) mean mg mb h₀) (hk : cs.kind = .function)
   (hlen : l.length ≤ 20) (hdp : dp + 3 < recursionLimit) (hun : un + 40 < cLine)
   (ret : ∀ h' tk' t', Fr h₀ L h' m → News h₀ L h' news → Q (.str (S (escP 3 l)) t') { s with heap := h', toks := tk' }) :
   wpAny (model Challenge.rw_mr0207_01.row.prog w) (ktrTop dp un gd cn cs L a ccd cl outer) (call (.ref 77) [.str (S l) t]) Q E s := by
  refine wpAny_call ?_
  k_dflt ktr_enter
  ktr_unf
  rename Fr _ _ _ _ => F0
  rename News _ _ _ _ => N0
  have b0 : l.length ≤ 20 := hlen
  refine esc_if (c := 38) F0 (by assumption) N0 rfl (Nat.le_trans b0 (by decide)) (by decide +kernel) (by decide +kernel) (by decide +kernel) ?_
  intro h1 tk1 t1 F1 N1
  rw [z_amp] at F1
  have b1 := rep1_le (c := 38) (z := [38, 97, 109, 112, 59]) b0 rfl (by decide) (Nat.le_refl _)
  ktr_unf
  refine esc_if (c := 60) F1 (by assumption) N1 rfl (Nat.le_trans b1 (by decide)) (by decide +kernel) (by decide +kernel) (by decide +kernel) ?_
  intro h2 tk2 t2 F2 N2
  rw [z_lt] at F2
  have b2 := rep1_le (c := 60) (z := [38, 108, 116, 59]) b1 rfl (by decide) (Nat.le_refl _)
  ktr_unf
  refine esc_if (c := 62) F2 (by assumption) N2 rfl (Nat.le_trans b2 (by decide)) (by decide +kernel) (by decide +kernel) (by decide +kernel) ?_
  intro h3 tk3 t3 F3 N3
  rw [z_gt] at F3
  have b3 := rep1_le (c := 62) (z := [38, 103, 116, 59]) b2 rfl (by decide) (Nat.le_refl _)
  ktr_unf
  refine esc_if (c := 13) F3 (by assumption) N3 rfl (Nat.le_trans b3 (by decide)) (by decide +kernel) (by decide +kernel) (by decide +kernel) ?_
  intro h4 tk4 t4 F4 N4
  rw [z_xD] at F4
  have b4 := rep1_le (c := 13) (z := [38, 35, 120, 68, 59]) b3 rfl (by decide) (Nat.le_refl _)
  ktr_unf
  exact ret _ _ _ (by assumption) (by assumption)

theorem esc4_c {w : World} {mean : ExcName → Option Value} {mg mb : Str → Option Value} {dp un : Nat} {gd : Option (List Code)} {cn : Str} {cs : Scope} {a : Addr} {ccd : Value} {cl : List (Str × Addr)} {outer : List Env} {A₀ : Around} {base h₀ : Heap} {L : Addr} {m : Str → Option Value} {s : Shared} {Q E : Value → Shared → Prop}
   {news : List (Addr × Obj)} {l : List Nat} {t : Tok}
   (B : Below A₀ base outer h₀) (F : Fr h₀ L s.heap m) (X : (hd.heap_39 w.params).In h₀) (N : News h₀ L s.heap news)
   (T : Top hd.view_39 (looseW hd.view_39 []) mean mg mb h₀) (hk : cs.kind = .function)
   (hlen : l.length ≤ 20) (hdp : dp + 3 < recursionLimit) (hun : un + 40 < cLine)
   (ret : ∀ h' tk' t', Fr h₀ L h' m → News h₀ L h' news → Q (.str (S (escP 4 l)) t') { s with heap := h', toks := tk' }) :
   wpAny (model Challenge.rw_mr0207_01.row.prog w) (ktrTop dp un gd cn cs L a ccd cl outer) (call (.ref 84) [.str (S l) t]) Q E s := by
  refine wpAny_call ?_
  k_dflt ktr_enter
  ktr_unf
  rename Fr _ _ _ _ => F0
  rename News _ _ _ _ => N0
  have b0 : l.length ≤ 20 := hlen
  refine esc_if (c := 38) F0 (by assumption) N0 rfl (Nat.le_trans b0 (by decide)) (by decide +kernel) (by decide +kernel) (by decide +kernel) ?_
  intro h1 tk1 t1 F1 N1
  rw [z_amp] at F1
  have b1 := rep1_le (c := 38) (z := [38, 97, 109, 112, 59]) b0 rfl (by decide) (Nat.le_refl _)
  ktr_unf
  refine esc_if (c := 60) F1 (by assumption) N1 rfl (Nat.le_trans b1 (by decide)) (by decide +kernel) (by decide +kernel) (by decide +kernel) ?_
  intro h2 tk2 t2 F2 N2
  rw [z_lt] at F2
  have b2 := rep1_le (c := 60) (z := [38, 108, 116, 59]) b1 rfl (by decide) (Nat.le_refl _)
  ktr_unf
  refine esc_if (c := 34) F2 (by assumption) N2 rfl (Nat.le_trans b2 (by decide)) (by decide +kernel) (by decide +kernel) (by decide +kernel) ?_
  intro h3 tk3 t3 F3 N3
  rw [z_quot] at F3
  have b3 := rep1_le (c := 34) (z := [38, 113, 117, 111, 116, 59]) b2 rfl (by decide) (Nat.le_refl _)
  ktr_unf
  refine esc_if (c := 9) F3 (by assumption) N3 rfl (Nat.le_trans b3 (by decide)) (by decide +kernel) (by decide +kernel) (by decide +kernel) ?_
  intro h4 tk4 t4 F4 N4
  rw [z_x9] at F4
  have b4 := rep1_le (c := 9) (z := [38, 35, 120, 57, 59]) b3 rfl (by decide) (Nat.le_refl _)
  ktr_unf
  refine esc_if (c := 10) F4 (by assumption) N4 rfl (Nat.le_trans b4 (by decide)) (by decide +kernel) (by decide +kernel) (by decide +kernel) ?_
  intro h5 tk5 t5 F5 N5
  rw [z_xA] at F5
  have b5 := rep1_le (c := 10) (z := [38, 35, 120, 65, 59]) b4 rfl (by decide) (Nat.le_refl _)
  ktr_unf
  refine esc_if (c := 13) F5 (by assumption) N5 rfl (Nat.le_trans b5 (by decide)) (by decide +kernel) (by decide +kernel) (by decide +kernel) ?_
  intro h6 tk6 t6 F6 N6
  rw [z_xD] at F6
  have b6 := rep1_le (c := 13) (z := [38, 35, 120, 68, 59]) b5 rfl (by decide) (Nat.le_refl _)
  ktr_unf
  exact ret _ _ _ (by assumption) (by assumption)
end Mine
end

-- Lp
section
open PySem PySem.W PyProof.Rows
namespace Mine
open PySem.Calls PyProof.V PySem.Spec
set_option linter.unusedVariables false
set_option maxRecDepth 100000
set_option maxHeartbeats 4000000
section
variable {prog : Program} {w : World} {A : Around} {E : Value → Shared → Prop} {s : Shared} {env : Env} {h₀ : Heap} {x : Str} {body : List Stmt} {Q : Flow → Shared → Prop}

/-- a loop over a range of ones, by an invariant over the turn's number, the frame's map and the ledger, which may grow -/
theorem lp_range {r : Addr} {a₀ b₀ : Int} {t₀ u₀ v₀ : Tok} {n : Nat} {m₀ : Str → Option Value} {news : List (Addr × Obj)} (J : Nat → (Str → Option Value) → List (Addr × Obj) → Prop)
    (hh : A.handled = none) (hr : IsRange s.heap r a₀ b₀ 1 t₀ u₀ v₀) (hsmall : Builtin.Range.small a₀ b₀ 1 = true) (hn : Builtin.Range.rangeSize a₀ b₀ 1 = (n : Int)) (F : Fr h₀ env.locals s.heap m₀) (N : News h₀ env.locals s.heap news) (hj : J 0 m₀ news)
    (turn : ∀ i t m₁ nx h tk own, i < n → TbOff own nx → J i m₁ nx → Fr h₀ env.locals h (fun y => if y = x then some (.int (a₀ + (i : Int)) t) else m₁ y) → News h₀ env.locals h (nx ++ own) →
      wpAny (model prog w) A (execs body env) (TbPost h₀ env.locals (J (i + 1)) own { s with heap := h, toks := tk } Q) E { s with heap := h, toks := tk })
    (done : ∀ m₁ nx h tk, J n m₁ nx → Fr h₀ env.locals h m₁ → News h₀ env.locals h nx → Q .next { s with heap := h, toks := tk }) :
    wpAny (model prog w) A (pyIter (.ref r)) (fun it s₂ => LoopAtV prog w A h₀ env x body Q E it s₂) E s := by
  refine wpAny_pyIter_range hr hsmall ?_
  have W : Walks prog w A s.heap.objs.size [s.heap.objs.size] [s.heap.objs.size] n (fun i v => i < n ∧ ∃ t, v = .int (a₀ + i * 1) t)
      (fun i h => IsRangeIter h s.heap.objs.size (a₀ + (i : Nat) * 1) ((n : Int) - (i : Nat)) 1) := (Walks.range hh _ a₀ 1 n).bound
  refine ⟨_, _, _, n, _, _, m₀, news, J, rfl, W, ?_, ?_, ?_, (by show IsRangeIter _ _ _ _ _; rw [hn]; simpa using Heap.get?_push_size _ rfl), F.push _, (fun p hp => ⟨Heap.get?_push_of_some _ (N p hp).1, (N p hp).2⟩), hj, ?_, ?_⟩
  · intro hm
    exact absurd F.ns.lt ((List.mem_singleton.mp hm) ▸ Nat.lt_irrefl _)
  · intro b hb
    rw [List.mem_singleton.mp hb]
    exact next_is_new F
  · intro p hp hI
    exact absurd (Heap.lt_size (N p hp).1) ((List.mem_singleton.mp hI) ▸ Nat.lt_irrefl _)
  · rintro i v m₁ news₁ s₁ own ⟨hh', tk', rfl⟩ hin hP hJ hoff hown hget hmem hst F₁ N₁
    obtain ⟨_, t, rfl⟩ := hP
    have e1 : a₀ + (i : Int) * 1 = a₀ + (i : Int) := by omega
    rw [e1] at F₁
    have hI : (s.heap.objs.size, _) ∈ own := hmem _ (.head _) (next_is_new F) _ hst
    have hsep : TbOff own news₁ := by
      intro p hp q hq e
      exact hoff q hq (by rw [← e]; exact hown p hp)
    have N₂ : News h₀ env.locals hh' (news₁ ++ own) := fun p hp => N₁ p ((List.mem_append.mp hp).elim (fun h => List.mem_append.mpr (.inr h)) fun h => List.mem_append.mpr (.inl h))
    refine wpAny_mono (turn i t m₁ news₁ hh' tk' own hin hsep hJ F₁ N₂) (fun f s₂ p => ?_) fun _ _ e => e
    have fin : TbEnd h₀ env.locals (J (i + 1)) own { s with heap := hh', toks := tk' } s₂ → LoopStepU h₀ env.locals [s.heap.objs.size] own (J (i + 1)) { s with heap := hh', toks := tk' } .next s₂ := by
      rintro ⟨h', tk, m', news', nx, e, F', N', hn, ho, ha, hm⟩
      exact ⟨rfl, h', tk, m', nx, e, F', fun p hp => N' p ((List.mem_append.mp hp).elim (ho p) (hn p)), fun p hp hq => ha _ hI p hp (List.mem_singleton.mp hq).symm, hm⟩
    cases f with
    | ret v => exact .ret p
    | brk => exact .brk p
    | next => exact .next (fin p)
    | cont => exact .cont (fin p)
  · rintro h' tk m' news' F' N' _ hJ
    exact done m' news' h' tk hJ F' N'

/-- a loop over a list of the ledger's, whatever its items -/
theorem lp_list {l : Addr} {vs : List Value} {nn : Nat} {m₀ : Str → Option Value} {news : List (Addr × Obj)} (J : Nat → (Str → Option Value) → List (Addr × Obj) → Prop)
    (hh : A.handled = none) (hl : (l, listOf vs.toArray nn) ∈ news) (F : Fr h₀ env.locals s.heap m₀) (N : News h₀ env.locals s.heap news) (hj : J 0 m₀ news)
    (turn : ∀ i v m₁ nx h tk own, vs[i]? = some v → TbOff own nx → (l, listOf vs.toArray nn) ∈ nx → J i m₁ nx → Fr h₀ env.locals h (fun y => if y = x then some v else m₁ y) → News h₀ env.locals h (nx ++ own) →
      wpAny (model prog w) A (execs body env) (TbPost h₀ env.locals (fun m' nx => (l, listOf vs.toArray nn) ∈ nx ∧ J (i + 1) m' nx) own { s with heap := h, toks := tk } Q) E { s with heap := h, toks := tk })
    (done : ∀ m₁ nx h tk, (l, listOf vs.toArray nn) ∈ nx → J vs.length m₁ nx → Fr h₀ env.locals h m₁ → News h₀ env.locals h nx → Q .next { s with heap := h, toks := tk }) :
    wpAny (model prog w) A (pyIter (.ref l)) (fun it s₂ => LoopAtV prog w A h₀ env x body Q E it s₂) E s := by
  have hol : s.heap.get? l = some (listOf vs.toArray nn) := (N _ hl).1
  have hls : s.heap.IsList l vs.toArray := ⟨_, hol, rfl, nn, rfl⟩
  have hne : l ≠ s.heap.objs.size := Nat.ne_of_lt (Heap.lt_size hol)
  refine wpAny_pyIter_list hls ?_
  have W := Walks.list (prog := prog) (w := w) hh s.heap.objs.size l hne vs.toArray
  have hlen : vs.toArray.size = vs.length := by simp
  rw [hlen] at W
  refine ⟨_, _, _, vs.length, _, _, m₀, news, (fun i m nx => (l, listOf vs.toArray nn) ∈ nx ∧ J i m nx), rfl, W, ?_, ?_, ?_, ⟨⟨_, Heap.get?_push_size _ rfl, rfl, rfl⟩, hls.at fun o e => Heap.get?_push_of_some _ e⟩, F.push _, (fun p hp => ⟨Heap.get?_push_of_some _ (N p hp).1, (N p hp).2⟩), ⟨hl, hj⟩, ?_, ?_⟩
  · intro hm
    rcases List.mem_cons.mp hm with e | hm
    · exact absurd F.ns.lt (e ▸ Nat.lt_irrefl _)
    · exact (N _ hl).2.1 ((List.mem_singleton.mp hm).symm)
  · intro b hb
    rw [List.mem_singleton.mp hb]
    exact next_is_new F
  · intro p hp hI
    exact absurd (Heap.lt_size (N p hp).1) ((List.mem_singleton.mp hI) ▸ Nat.lt_irrefl _)
  · rintro i v m₁ news₁ s₁ own ⟨hh', tk', rfl⟩ hin hP ⟨hl₁, hJ⟩ hoff hown hget hfp hst F₁ N₁
    obtain ⟨⟨oi, hoi, _⟩, _⟩ := hst
    have hI : (s.heap.objs.size, oi) ∈ own := hfp _ (.head _) (next_is_new F) oi hoi
    have hsep : TbOff (own.filter fun p => decide (p.1 = s.heap.objs.size)) news₁ := by
      intro p hp q hq e
      have h1 : p.1 = s.heap.objs.size := by simpa using (List.mem_filter.mp hp).2
      exact hoff q hq (List.mem_singleton.mpr (by rw [← e, h1]))
    have hP' : vs[i]? = some v := by simpa using hP
    have N₂ : News h₀ env.locals hh' (news₁ ++ own.filter fun p => decide (p.1 = s.heap.objs.size)) := fun p hp => N₁ p ((List.mem_append.mp hp).elim (fun h => List.mem_append.mpr (.inr h)) fun h => List.mem_append.mpr (.inl ((List.mem_filter.mp h).1)))
    have hlo : hh'.get? l = some (listOf vs.toArray nn) := (N₁ _ (List.mem_append.mpr (.inr hl₁))).1
    refine wpAny_mono (turn i v m₁ news₁ hh' tk' _ hP' hsep hl₁ hJ F₁ N₂) (fun f s₂ p => ?_) fun _ _ e => e
    have fin : TbEnd h₀ env.locals (fun m' nx => (l, listOf vs.toArray nn) ∈ nx ∧ J (i + 1) m' nx) (own.filter fun p => decide (p.1 = s.heap.objs.size)) { s with heap := hh', toks := tk' } s₂ →
        LoopStepU h₀ env.locals [s.heap.objs.size] own (fun m nx => (l, listOf vs.toArray nn) ∈ nx ∧ J (i + 1) m nx) { s with heap := hh', toks := tk' } .next s₂ := by
      rintro ⟨h', tk, m', news', nx, e, F', N', hn, ho, ha, hm⟩
      refine ⟨rfl, h', tk, m', nx, e, F', fun p hp => ?_, fun p hp hq => ?_, hm⟩
      · rcases List.mem_append.mp hp with h | h
        · by_cases hI : p.1 = s.heap.objs.size
          · exact N' p (ho p (List.mem_filter.mpr ⟨h, by simpa using hI⟩))
          · have h1 : p.1 = l := by
              rcases List.mem_cons.mp (hown p h) with h2 | h2
              · exact absurd h2 hI
              · exact List.mem_singleton.mp h2
            have h2 := hget p h
            have h3 : hh'.get? p.1 = some p.2 := h2
            rw [h1, hlo] at h3
            have h4 : p = (l, listOf vs.toArray nn) := by
              cases p
              simp only at h1 h3
              rw [h1, Option.some.inj h3]
            rw [h4]
            exact N' _ (hn _ hm.1)
        · exact N' p (hn p h)
      · exact ha _ (List.mem_filter.mpr ⟨hI, by simp⟩) p hp (List.mem_singleton.mp hq).symm
    cases f with
    | ret v => exact .ret p
    | brk => exact .brk p
    | next => exact .next (fin p)
    | cont => exact .cont (fin p)
  · rintro h' tk m' news' F' N' _ ⟨hl', hJ⟩
    exact done m' news' h' tk hl' hJ F' N'

abbrev tupOf (vs : List Value) (n : Nat) : Obj := { cls := .type "tuple", data := .seq vs.toArray n }
/-- the same over a tuple -/
theorem lp_tuple {l : Addr} {vs : List Value} {nn : Nat} {m₀ : Str → Option Value} {news : List (Addr × Obj)} (J : Nat → (Str → Option Value) → List (Addr × Obj) → Prop)
    (hh : A.handled = none) (hl : (l, tupOf vs nn) ∈ news) (F : Fr h₀ env.locals s.heap m₀) (N : News h₀ env.locals s.heap news) (hj : J 0 m₀ news)
    (turn : ∀ i v m₁ nx h tk own, vs[i]? = some v → TbOff own nx → (l, tupOf vs nn) ∈ nx → J i m₁ nx → Fr h₀ env.locals h (fun y => if y = x then some v else m₁ y) → News h₀ env.locals h (nx ++ own) →
      wpAny (model prog w) A (execs body env) (TbPost h₀ env.locals (fun m' nx => (l, tupOf vs nn) ∈ nx ∧ J (i + 1) m' nx) own { s with heap := h, toks := tk } Q) E { s with heap := h, toks := tk })
    (done : ∀ m₁ nx h tk, (l, tupOf vs nn) ∈ nx → J vs.length m₁ nx → Fr h₀ env.locals h m₁ → News h₀ env.locals h nx → Q .next { s with heap := h, toks := tk }) :
    wpAny (model prog w) A (pyIter (.ref l)) (fun it s₂ => LoopAtV prog w A h₀ env x body Q E it s₂) E s := by
  have hol : s.heap.get? l = some (tupOf vs nn) := (N _ hl).1
  have hls : s.heap.IsTuple l vs.toArray := ⟨_, hol, rfl, nn, rfl⟩
  have hne : l ≠ s.heap.objs.size := Nat.ne_of_lt (Heap.lt_size hol)
  refine wpAny_pyIter_tuple hls ?_
  have W := Walks.tuple (prog := prog) (w := w) hh s.heap.objs.size l hne vs.toArray
  have hlen : vs.toArray.size = vs.length := by simp
  rw [hlen] at W
  refine ⟨_, _, _, vs.length, _, _, m₀, news, (fun i m nx => (l, tupOf vs nn) ∈ nx ∧ J i m nx), rfl, W, ?_, ?_, ?_, ⟨⟨_, Heap.get?_push_size _ rfl, rfl, rfl⟩, hls.at fun o e => Heap.get?_push_of_some _ e⟩, F.push _, (fun p hp => ⟨Heap.get?_push_of_some _ (N p hp).1, (N p hp).2⟩), ⟨hl, hj⟩, ?_, ?_⟩
  · intro hm
    rcases List.mem_cons.mp hm with e | hm
    · exact absurd F.ns.lt (e ▸ Nat.lt_irrefl _)
    · exact (N _ hl).2.1 ((List.mem_singleton.mp hm).symm)
  · intro b hb
    rw [List.mem_singleton.mp hb]
    exact next_is_new F
  · intro p hp hI
    exact absurd (Heap.lt_size (N p hp).1) ((List.mem_singleton.mp hI) ▸ Nat.lt_irrefl _)
  · rintro i v m₁ news₁ s₁ own ⟨hh', tk', rfl⟩ hin hP ⟨hl₁, hJ⟩ hoff hown hget hfp hst F₁ N₁
    obtain ⟨⟨oi, hoi, _⟩, _⟩ := hst
    have hI : (s.heap.objs.size, oi) ∈ own := hfp _ (.head _) (next_is_new F) oi hoi
    have hsep : TbOff (own.filter fun p => decide (p.1 = s.heap.objs.size)) news₁ := by
      intro p hp q hq e
      have h1 : p.1 = s.heap.objs.size := by simpa using (List.mem_filter.mp hp).2
      exact hoff q hq (List.mem_singleton.mpr (by rw [← e, h1]))
    have hP' : vs[i]? = some v := by simpa using hP
    have N₂ : News h₀ env.locals hh' (news₁ ++ own.filter fun p => decide (p.1 = s.heap.objs.size)) := fun p hp => N₁ p ((List.mem_append.mp hp).elim (fun h => List.mem_append.mpr (.inr h)) fun h => List.mem_append.mpr (.inl ((List.mem_filter.mp h).1)))
    have hlo : hh'.get? l = some (tupOf vs nn) := (N₁ _ (List.mem_append.mpr (.inr hl₁))).1
    refine wpAny_mono (turn i v m₁ news₁ hh' tk' _ hP' hsep hl₁ hJ F₁ N₂) (fun f s₂ p => ?_) fun _ _ e => e
    have fin : TbEnd h₀ env.locals (fun m' nx => (l, tupOf vs nn) ∈ nx ∧ J (i + 1) m' nx) (own.filter fun p => decide (p.1 = s.heap.objs.size)) { s with heap := hh', toks := tk' } s₂ →
        LoopStepU h₀ env.locals [s.heap.objs.size] own (fun m nx => (l, tupOf vs nn) ∈ nx ∧ J (i + 1) m nx) { s with heap := hh', toks := tk' } .next s₂ := by
      rintro ⟨h', tk, m', news', nx, e, F', N', hn, ho, ha, hm⟩
      refine ⟨rfl, h', tk, m', nx, e, F', fun p hp => ?_, fun p hp hq => ?_, hm⟩
      · rcases List.mem_append.mp hp with h | h
        · by_cases hI : p.1 = s.heap.objs.size
          · exact N' p (ho p (List.mem_filter.mpr ⟨h, by simpa using hI⟩))
          · have h1 : p.1 = l := by
              rcases List.mem_cons.mp (hown p h) with h2 | h2
              · exact absurd h2 hI
              · exact List.mem_singleton.mp h2
            have h2 := hget p h
            have h3 : hh'.get? p.1 = some p.2 := h2
            rw [h1, hlo] at h3
            have h4 : p = (l, tupOf vs nn) := by
              cases p
              simp only at h1 h3
              rw [h1, Option.some.inj h3]
            rw [h4]
            exact N' _ (hn _ hm.1)
        · exact N' p (hn p h)
      · exact ha _ (List.mem_filter.mpr ⟨hI, by simp⟩) p hp (List.mem_singleton.mp hq).symm
    cases f with
    | ret v => exact .ret p
    | brk => exact .brk p
    | next => exact .next (fin p)
    | cont => exact .cont (fin p)
  · rintro h' tk m' news' F' N' _ ⟨hl', hJ⟩
    exact done m' news' h' tk hl' hJ F' N'

/-- a turn's end of a loop whose name lies in a cell -/
def CEnd (h₀ : Heap) (L c I : Addr) (J : (Str → Option Value) → List (Addr × Obj) → Prop) (oi : Obj) (s₁ s₂ : Shared) : Prop :=
  ∃ h' tk m' news' nx oc v, s₂ = { s₁ with heap := h', toks := tk } ∧ Fr h₀ L h' m' ∧ News h₀ L h' news' ∧ (c, oc) ∈ news' ∧ oc.data = .cell v ∧ (I, oi) ∈ news' ∧ (∀ p ∈ nx, p ∈ news') ∧ (∀ p ∈ nx, p.1 ≠ c) ∧ (∀ p ∈ nx, p.1 ≠ I) ∧ J m' nx
def CPost (h₀ : Heap) (L c I : Addr) (J : (Str → Option Value) → List (Addr × Obj) → Prop) (oi : Obj) (s₁ : Shared) (Q : Flow → Shared → Prop) (f : Flow) (s₂ : Shared) : Prop :=
  match f with
  | .ret v => Q (.ret v) s₂
  | .brk => Q .next s₂
  | _ => CEnd h₀ L c I J oi s₁ s₂
theorem lp_rangeC {px : Pos} {r c : Addr} {a₀ b₀ : Int} {t₀ u₀ v₀ : Tok} {n : Nat} {m₀ : Str → Option Value} {news : List (Addr × Obj)} {oc : Obj} {vc : Option Value} {cn : Str} {cs : Scope} {L a : Addr} {ccd : Value} {cl : List (Str × Addr)} (J : Nat → (Str → Option Value) → List (Addr × Obj) → Prop)
    (hh : A.handled = none) (hr : IsRange s.heap r a₀ b₀ 1 t₀ u₀ v₀) (hsmall : Builtin.Range.small a₀ b₀ 1 = true) (hn : Builtin.Range.rangeSize a₀ b₀ 1 = (n : Int)) (F : Fr h₀ L s.heap m₀) (N : News h₀ L s.heap ((c, oc) :: news)) (hoc : oc.data = .cell vc) (hcn : ∀ p ∈ news, p.1 ≠ c) (hj : J 0 m₀ news)
    (hk : cs.kind = .function) (hx : (envX cn cs L a ccd cl).kindOf x = some .cell) (hc : cl.lookup x = some c)
    (turn : ∀ i t m₁ nx h tk I oi oc, i < n → (∀ p ∈ nx, p.1 ≠ c) → (∀ p ∈ nx, p.1 ≠ I) → c ≠ I → J i m₁ nx → oc.data = .cell (some (.int (a₀ + (i : Int)) t)) → Fr h₀ L h m₁ → News h₀ L h ((c, oc) :: (nx ++ [(I, oi)])) →
      wpAny (model prog w) A (execs body (envX cn cs L a ccd cl)) (CPost h₀ L c I (J (i + 1)) oi { s with heap := h, toks := tk } Q) E { s with heap := h, toks := tk })
    (done : ∀ m₁ nx h tk oc, J n m₁ nx → Fr h₀ L h m₁ → News h₀ L h ((c, oc) :: nx) → Q .next { s with heap := h, toks := tk })
    (hE : PassesOwn (model prog w) A (envX cn cs L a ccd cl) E) :
    wpAny (model prog w) A (pyIter (.ref r)) (fun it s₂ => codeAny (model prog w) A (.forLoop (.Name x px) it body [] (envX cn cs L a ccd cl)) (fun r s' => match r with | .ok f => Q f s' | .error e => cameBackBy (model prog w) A (envX cn cs L a ccd cl) E e s') s₂) E s := by
  refine wpAny_pyIter_range hr hsmall ?_
  generalize hIeq : s.heap.objs.size = I
  have W : Walks prog w A I [I] [I] n (fun i v => i < n ∧ ∃ t, v = .int (a₀ + i * 1) t)
      (fun i h => IsRangeIter h I (a₀ + (i : Nat) * 1) ((n : Int) - (i : Nat)) 1) := (Walks.range hh _ a₀ 1 n).bound
  have hI0 : h₀.get? I = none := by rw [← hIeq]; exact next_is_new F
  have hLI : L ≠ I := by
    intro e
    exact absurd F.ns.lt (by rw [e, hIeq]; exact Nat.lt_irrefl _)
  have hnI : ∀ p ∈ (c, oc) :: news, p.1 ≠ I := by
    intro p hp e
    exact absurd (Heap.lt_size (N p hp).1) (by rw [e, hIeq]; exact Nat.lt_irrefl _)
  refine codeAny_forLoop
    (fun k s' => ∃ h' tk m' nx i oc v, s' = { s with heap := h', toks := tk } ∧ IsRangeIter h' I (a₀ + (i : Nat) * 1) ((n : Int) - (i : Nat)) 1 ∧ Fr h₀ L h' m' ∧ News h₀ L h' ((c, oc) :: nx) ∧ oc.data = .cell v ∧ (∀ p ∈ nx, p.1 ≠ c) ∧ (∀ p ∈ nx, p.1 ≠ I) ∧ J i m' nx ∧ i ≤ n ∧ k = n + 1 - i) ?_ (n + 1)
    ⟨_, s.toks, m₀, news, 0, oc, vc, rfl, (by subst hIeq; show IsRangeIter _ _ _ _ _; rw [hn]; simpa using Heap.get?_push_size _ rfl), F.push _, (fun p hp => ⟨Heap.get?_push_of_some _ (N p hp).1, (N p hp).2⟩), hoc, hcn, fun p hp => hnI p (.tail _ hp), hj, Nat.zero_le _, rfl⟩
  have hcI : c ≠ I := hnI (c, oc) (.head _)
  rintro k s' ⟨h', tk, m', nx, i, oc', v', rfl, hst', F', N', hoc', hnc', hnI', hJ, hi, rfl⟩
  have next : ∀ h₁ : Heap, (∀ b o, b ∉ [I] → h'.get? b = some o → h₁.get? b = some o) → Fr h₀ L h₁ m' ∧ News h₀ L h₁ ((c, oc') :: nx) := fun h₁ hk₁ =>
    ⟨⟨F'.ns.at' fun o e => hk₁ _ o (fun h => hLI (List.mem_singleton.mp h)) e, fun b o e => hk₁ b o (fun h => by rw [List.mem_singleton.mp h, hI0] at e; cases e) (F'.keep b o e), F'.above⟩, fun p hp => ⟨hk₁ _ _ (fun h => by
      rcases List.mem_cons.mp hp with rfl | hp
      · exact hcI (List.mem_singleton.mp h)
      · exact hnI' p hp (List.mem_singleton.mp h)) (N' p hp).1, (N' p hp).2⟩⟩
  by_cases hlt : i < n
  · refine W.item i _ _ _ hlt hst' fun v h₁ tk₁ hP hst₁ hk₁ => ?_
    obtain ⟨F₁, N₁⟩ := next h₁ hk₁
    obtain ⟨_, t, rfl⟩ := hP
    have e1 : a₀ + (i : Int) * 1 = a₀ + (i : Int) := by omega
    obtain ⟨oi, hoi, hback⟩ : ∃ oi, h₁.get? I = some oi ∧ ∀ h : Heap, h.get? I = some oi → IsRangeIter h I (a₀ + ((i + 1 : Nat) : Int) * 1) ((n : Int) - ((i + 1 : Nat) : Int)) 1 := ⟨_, hst₁, fun h e => e⟩
    have N₂ : News h₀ L h₁ ((c, oc') :: (nx ++ [(I, oi)])) := fun p hp => by
      rcases List.mem_cons.mp hp with rfl | hp
      · exact N₁ _ (.head _)
      · rcases List.mem_append.mp hp with hp | hp
        · exact N₁ _ (.tail _ hp)
        · rw [List.mem_singleton.mp hp]
          exact ⟨hoi, Ne.symm hLI, hI0⟩
    refine wpAny_assign_Name (storeX_C F₁ N₂ hc (UpdF.head (fun p hp => ?_)) hoc' (fun h₂ o' F₂ N₃ hd' => ?_) hk hx)
    · rcases List.mem_append.mp hp with hp | hp
      · exact hnc' p hp
      · rw [List.mem_singleton.mp hp]; exact Ne.symm hcI
    · rw [e1] at hd'
      refine wpAny_passesOwn hE (wpAny_mono (turn i t m' nx h₂ _ I _ o' hlt hnc' hnI' hcI hJ hd' F₂ N₃) (fun f s₃ h₃ => ?_) fun _ _ e => e)
      have fin : CEnd h₀ L c I (J (i + 1)) oi { s with heap := h₂, toks := tk₁ } s₃ → ∃ m, m < n + 1 - i ∧ ∃ h' tk m' nx i oc v, s₃ = { s with heap := h', toks := tk } ∧ IsRangeIter h' I (a₀ + (i : Nat) * 1) ((n : Int) - (i : Nat)) 1 ∧ Fr h₀ L h' m' ∧ News h₀ L h' ((c, oc) :: nx) ∧ oc.data = .cell v ∧ (∀ p ∈ nx, p.1 ≠ c) ∧ (∀ p ∈ nx, p.1 ≠ I) ∧ J i m' nx ∧ i ≤ n ∧ m = n + 1 - i := by
        rintro ⟨h₄, tk₄, m₄, news₄, nx₄, oc₄, v₄, rfl, F₄, N₄, hcm, hcd, hIm, hsub, hnc₄, hnI₄, hJ₄⟩
        refine ⟨n + 1 - (i + 1), by omega, h₄, tk₄, m₄, nx₄, i + 1, oc₄, v₄, rfl, hback _ (N₄ _ hIm).1, F₄, ?_, hcd, hnc₄, hnI₄, hJ₄, hlt, rfl⟩
        intro p hp
        rcases List.mem_cons.mp hp with rfl | hp
        · exact N₄ _ hcm
        · exact N₄ _ (hsub p hp)
      cases f with
      | ret v => exact h₃
      | brk => exact h₃
      | cont => exact fin h₃
      | next => exact fin h₃
  · have hin : i = n := by omega
    subst hin
    refine W.done _ _ _ hst' fun h₁ tk₁ hk₁ => wpAny_execs_nil ?_
    obtain ⟨F₁, N₁⟩ := next h₁ hk₁
    exact done m' nx h₁ tk₁ oc' hJ F₁ N₁

abbrev pairObj (v1 v2 : Value) (n : Nat) : Obj := { cls := .type "tuple", data := .seq [v1, v2].toArray n }
def PEnd (h₀ : Heap) (L : Addr) (news : List (Addr × Obj)) (J : (Str → Option Value) → Prop) (s s₂ : Shared) : Prop :=
  ∃ h' tk' m', s₂ = { s with heap := h', toks := tk' } ∧ Fr h₀ L h' m' ∧ News h₀ L h' news ∧ J m'
def PPost (h₀ : Heap) (L : Addr) (news : List (Addr × Obj)) (J : (Str → Option Value) → Prop) (s : Shared) (Q : Flow → Shared → Prop) (f : Flow) (s₂ : Shared) : Prop :=
  match f with
  | .ret v => Q (.ret v) s₂
  | .brk => Q .next s₂
  | _ => PEnd h₀ L news J s s₂
/-- a loop «for a, b in l» over a list of pairs of the ledger's; the turns make nothing and change the frame alone -/
theorem lp_pairs {x1 x2 : Str} {px1 px2 tp : Pos} {tk0 : Nat} {l : Addr} {vs : List Value} {nn : Nat} {m₀ : Str → Option Value} {news : List (Addr × Obj)} (J : Nat → (Str → Option Value) → Prop)
    (hh : A.handled = none) (hl : (l, listOf vs.toArray nn) ∈ news) (F : Fr h₀ env.locals s.heap m₀) (N : News h₀ env.locals s.heap news)
    (hx1 : env.kindOf x1 = some .local) (hx2 : env.kindOf x2 = some .local) (hp : (env.scope.kind == .class || (env.scope.kind == .module && env.locals != env.globals)) = false)
    (hpairs : ∀ (i : Nat) (v : Value), vs[i]? = some v → ∃ (t : Addr) (nt : Nat) (v1 v2 : Value), v = .ref t ∧ (t, pairObj v1 v2 nt) ∈ news) (hj : J 0 m₀)
    (turn : ∀ (i : Nat) (t : Addr) (nt : Nat) (v1 v2 : Value) m₁ h tk own, vs[i]? = some (.ref t) → (t, pairObj v1 v2 nt) ∈ news → J i m₁ → Fr h₀ env.locals h (fun y => if y = x2 then some v2 else if y = x1 then some v1 else m₁ y) → News h₀ env.locals h (news ++ own) →
      wpAny (model prog w) A (execs body env) (PPost h₀ env.locals (news ++ own) (J (i + 1)) s Q) E { s with heap := h, toks := tk })
    (done : ∀ m₁ h tk, J vs.length m₁ → Fr h₀ env.locals h m₁ → News h₀ env.locals h news → Q .next { s with heap := h, toks := tk })
    (hE : PassesOwn (model prog w) A env E) :
    wpAny (model prog w) A (pyIter (.ref l)) (fun it s₂ => codeAny (model prog w) A (.forLoop (.Tuple [.Name x1 px1, .Name x2 px2] tk0 tp) it body [] env) (fun r s' => match r with | .ok f => Q f s' | .error e => cameBackBy (model prog w) A env E e s') s₂) E s := by
  have hol : s.heap.get? l = some (listOf vs.toArray nn) := (N _ hl).1
  have hls : s.heap.IsList l vs.toArray := ⟨_, hol, rfl, nn, rfl⟩
  have hne : l ≠ s.heap.objs.size := Nat.ne_of_lt (Heap.lt_size hol)
  refine wpAny_pyIter_list hls ?_
  have W := Walks.list (prog := prog) (w := w) hh s.heap.objs.size l hne vs.toArray
  have hlen : vs.toArray.size = vs.length := by simp
  rw [hlen] at W
  have hst0 : (s.heap.push { cls := .type "list_iterator", data := .fields #[.ref l, .int 0 0] }).IsListIter s.heap.objs.size l 0 := ⟨_, Heap.get?_push_size _ rfl, rfl, rfl⟩
  have hI0 : h₀.get? s.heap.objs.size = none := next_is_new F
  have hLI : env.locals ≠ s.heap.objs.size := Nat.ne_of_lt F.ns.lt
  have hnI : ∀ p ∈ news, p.1 ≠ s.heap.objs.size := fun p hp => Nat.ne_of_lt (Heap.lt_size (N p hp).1)
  have F1 := F.push { cls := .type "list_iterator", data := .fields #[.ref l, .int 0 0] }
  have N1 : News h₀ env.locals (s.heap.push { cls := .type "list_iterator", data := .fields #[.ref l, .int 0 0] }) news := fun p hp => ⟨Heap.get?_push_of_some _ (N p hp).1, (N p hp).2⟩
  generalize s.heap.push { cls := .type "list_iterator", data := .fields #[.ref l, .int 0 0] } = H1 at hst0 F1 N1 ⊢
  generalize s.heap.objs.size = I at W hst0 hI0 hLI hnI ⊢
  refine codeAny_forLoop_any
    (fun k s' => ∃ h' tk m' i, s' = { s with heap := h', toks := tk } ∧ h'.IsListIter I l i ∧ Fr h₀ env.locals h' m' ∧ News h₀ env.locals h' news ∧ J i m' ∧ i ≤ vs.length ∧ k = vs.length + 1 - i) ?_ (vs.length + 1)
    ⟨H1, s.toks, m₀, 0, rfl, hst0, F1, N1, hj, Nat.zero_le _, rfl⟩
  rintro k s' ⟨h', tk, m', i, rfl, hst', F', N', hJ, hi, rfl⟩
  have lst : ∀ h : Heap, News h₀ env.locals h news → h.IsList l vs.toArray := fun h N => ⟨_, (N _ hl).1, rfl, nn, rfl⟩
  have next : ∀ h₁ : Heap, (∀ b o, b ∉ [I] → h'.get? b = some o → h₁.get? b = some o) → Fr h₀ env.locals h₁ m' ∧ News h₀ env.locals h₁ news := fun h₁ hk₁ =>
    ⟨⟨F'.ns.at' fun o e => hk₁ _ o (fun h => hLI (List.mem_singleton.mp h)) e, fun b o e => hk₁ b o (fun h => by rw [List.mem_singleton.mp h, hI0] at e; cases e) (F'.keep b o e), F'.above⟩, fun p hp => ⟨hk₁ _ _ (fun h => hnI p hp (List.mem_singleton.mp h)) (N' p hp).1, (N' p hp).2⟩⟩
  by_cases hlt : i < vs.length
  · refine W.item i _ _ _ hlt ⟨hst', lst _ N'⟩ fun v h₁ tk₁ hP hst₁ hk₁ => ?_
    obtain ⟨F₁, N₁⟩ := next h₁ hk₁
    have hP' : vs[i]? = some v := by simpa using hP
    obtain ⟨t, nt, v1, v2, rfl, hmt⟩ := hpairs i v hP'
    obtain ⟨oi, hoi, hback⟩ : ∃ oi, h₁.get? I = some oi ∧ ∀ h : Heap, h.get? I = some oi → h.IsListIter I l (i + 1) := by
      obtain ⟨o, e, r⟩ := hst₁.1
      exact ⟨o, e, fun h e' => ⟨o, e', r⟩⟩
    refine wpAny_letOwnedTupleGo_listiter hst₁.1 ?_
    have ht : IsTup h₁ t #[v1, v2] := ⟨_, (N₁ _ hmt).1, rfl, nt, rfl⟩
    refine assign_Tuple_tuple hh ht rfl rfl fun h₅ he => ?_
    have he' : ∀ b o, h₁.get? b = some o → h₅.get? b = some o := fun b o e => he b o (Nat.ne_of_lt (Heap.lt_size e)) e
    have F₅ := F₁.keeps he'
    have N₅ := N₁.grown he'
    refine assignInOrder_cons (wpAny_assign_Name (wpAny_storeName_local hx1 F₅.ns (fun h₆ hn₆ hs₆ => ?_) hp))
    refine assignInOrder_cons (wpAny_assign_Name (wpAny_storeName_local hx2 hn₆ (fun h₇ hn₇ hs₇ => ?_) hp))
    refine assignInOrder_nil ?_
    have F₆ := F₅.set hn₆ hs₆
    have F₇ := F₆.set hn₇ hs₇
    have N₇ : News h₀ env.locals h₇ (news ++ [(I, oi)]) := fun p hp => by
      rcases List.mem_append.mp hp with hp | hp
      · exact ((N₅.set hs₆).set hs₇) p hp
      · rw [List.mem_singleton.mp hp]
        refine ⟨?_, Ne.symm hLI, hI0⟩
        exact (hs₇.2 I (Ne.symm hLI)).trans ((hs₆.2 I (Ne.symm hLI)).trans (he' _ _ hoi))
    refine wpAny_passesOwn hE (wpAny_mono (turn i t nt v1 v2 m' h₇ _ [(I, oi)] hP' hmt hJ F₇ N₇) (fun f s₃ h₃ => ?_) fun _ _ e => e)
    have fin : (∃ h' tk' m', s₃ = { s with heap := h', toks := tk' } ∧ Fr h₀ env.locals h' m' ∧ News h₀ env.locals h' (news ++ [(I, oi)]) ∧ J (i + 1) m') → ∃ m, m < vs.length + 1 - i ∧ ∃ h' tk m' i, s₃ = { s with heap := h', toks := tk } ∧ h'.IsListIter I l i ∧ Fr h₀ env.locals h' m' ∧ News h₀ env.locals h' news ∧ J i m' ∧ i ≤ vs.length ∧ m = vs.length + 1 - i := by
      rintro ⟨h₈, tk₈, m₈, rfl, F₈, N₈, hJ₈⟩
      exact ⟨vs.length + 1 - (i + 1), by omega, h₈, tk₈, m₈, i + 1, rfl, hback _ (N₈ _ (List.mem_append_right _ (.head _))).1, F₈, fun p hp => N₈ p (List.mem_append_left _ hp), hJ₈, hlt, rfl⟩
    cases f with
    | ret v => exact h₃
    | brk => exact h₃
    | cont => exact fin h₃
    | next => exact fin h₃
  · have hin : i = vs.length := by omega
    subst hin
    refine W.done _ _ _ ⟨hst', lst _ N'⟩ fun h₁ tk₁ hk₁ => wpAny_execs_nil ?_
    obtain ⟨F₁, N₁⟩ := next h₁ hk₁
    exact done m' h₁ tk₁ hJ F₁ N₁

def PK {σ : Type} (ps : σ → List (Str × Value)) (stored : List Str) (m₀ : Str → Option Value) (P : σ → Prop) (m : Str → Option Value) : Prop :=
  ∃ c, (∀ p ∈ ps c, m p.1 = some p.2) ∧ (∀ z, (∀ p ∈ ps c, z ≠ p.1) → stored.contains z = false → m z = m₀ z) ∧ P c
theorem PK.eq {ps : List (Str × Value)} {stored : List Str} {m₀ m₁ : Str → Option Value} (h1 : ∀ p ∈ ps, m₁ p.1 = some p.2) (h2 : ∀ z, (∀ p ∈ ps, z ≠ p.1) → stored.contains z = false → m₁ z = m₀ z) :
    m₁ = kstB (fun z => if stored.contains z then m₁ z else m₀ z) ps := by
  funext y
  refine (kstB_eq h1 fun hn => ?_).symm
  show (if stored.contains y = true then m₁ y else m₀ y) = m₁ y
  cases h3 : stored.contains y with
  | true => simp
  | false => simp only [Bool.false_eq_true, if_false]; exact (h2 y hn h3).symm
theorem lp_pairsK {σ : Type} {x1 x2 : Str} {px1 px2 tp : Pos} {tk0 : Nat} {l : Addr} {vs : List Value} {nn : Nat} {m₀ : Str → Option Value} {news : List (Addr × Obj)} (ps : σ → List (Str × Value)) (stored : List Str) (P : Nat → σ → Prop) (c₀ : σ)
    (hh : A.handled = none) (hl : (l, listOf vs.toArray nn) ∈ news) (F : Fr h₀ env.locals s.heap m₀) (N : News h₀ env.locals s.heap news)
    (hx1 : env.kindOf x1 = some .local) (hx2 : env.kindOf x2 = some .local) (hp : (env.scope.kind == .class || (env.scope.kind == .module && env.locals != env.globals)) = false)
    (hpairs : ∀ (i : Nat) (v : Value), vs[i]? = some v → ∃ (t : Addr) (nt : Nat) (v1 v2 : Value), v = .ref t ∧ (t, pairObj v1 v2 nt) ∈ news) (hk : ∀ p ∈ ps c₀, m₀ p.1 = some p.2) (hj : P 0 c₀)
    (turn : ∀ (c : σ) (i : Nat) (t : Addr) (nt : Nat) (v1 v2 : Value) (u : Str → Option Value) h tk own, vs[i]? = some (.ref t) → (t, pairObj v1 v2 nt) ∈ news → P i c → Fr h₀ env.locals h (fun y => if y = x2 then some v2 else if y = x1 then some v1 else kstB (fun z => if stored.contains z then u z else m₀ z) (ps c) y) → News h₀ env.locals h (news ++ own) →
      wpAny (model prog w) A (execs body env) (PPost h₀ env.locals (news ++ own) (PK ps stored m₀ (P (i + 1))) s Q) E { s with heap := h, toks := tk })
    (done : ∀ (c : σ) (u : Str → Option Value) h tk, P vs.length c → Fr h₀ env.locals h (kstB (fun z => if stored.contains z then u z else m₀ z) (ps c)) → News h₀ env.locals h news → Q .next { s with heap := h, toks := tk })
    (hE : PassesOwn (model prog w) A env E) :
    wpAny (model prog w) A (pyIter (.ref l)) (fun it s₂ => codeAny (model prog w) A (.forLoop (.Tuple [.Name x1 px1, .Name x2 px2] tk0 tp) it body [] env) (fun r s' => match r with | .ok f => Q f s' | .error e => cameBackBy (model prog w) A env E e s') s₂) E s := by
  refine lp_pairs (fun i m => PK ps stored m₀ (P i) m) hh hl F N hx1 hx2 hp hpairs ⟨c₀, hk, fun _ _ _ => rfl, hj⟩ ?_ ?_ hE
  · rintro i t nt v1 v2 m₁ h tk own hv hm ⟨c, h1, h2, hP⟩ F₁ N₁
    have e := PK.eq h1 h2
    have F₂ : Fr h₀ env.locals h (fun y => if y = x2 then some v2 else if y = x1 then some v1 else kstB (fun z => if stored.contains z then m₁ z else m₀ z) (ps c) y) := by
      have e2 : (fun y => if y = x2 then some v2 else if y = x1 then some v1 else kstB (fun z => if stored.contains z then m₁ z else m₀ z) (ps c) y) = fun y => if y = x2 then some v2 else if y = x1 then some v1 else m₁ y := by
        rw [← e]
      rw [e2]; exact F₁
    exact turn c i t nt v1 v2 m₁ h tk own hv hm hP F₂ N₁
  · rintro m₁ h tk ⟨c, h1, h2, hP⟩ F₁ N₁
    refine done c m₁ h tk hP ?_ N₁
    rw [← PK.eq h1 h2]; exact F₁
end
end Mine
end

-- Pu
section
open PySem PySem.W PyProof.Rows
namespace Mine
set_option linter.unusedVariables false
section
variable {α β : Type} {lt : α → α → Bool}
theorem sd_length (new : α) : ∀ (f : Nat) (xs : List α) (pos : Nat), (sd lt new f xs pos).length = xs.length
  | 0, xs, pos => by simp [sd]
  | f + 1, xs, pos => by
    unfold sd
    split
    · simp
    · split
      · split
        · rw [sd_length new f]; simp
        · simp
      · simp
theorem siftdown_length (xs : List α) (pos : Nat) : (siftdown lt xs pos).length = xs.length := by
  unfold siftdown; split
  · exact sd_length _ _ _ _
  · rfl
theorem su_length : ∀ (f : Nat) (xs : List α) (pos : Nat), (su lt f xs pos).1.length = xs.length
  | 0, xs, pos => rfl
  | f + 1, xs, pos => by
    unfold su
    split
    · rfl
    · split
      · rw [su_length f]; simp
      · split
        · rw [su_length f]; simp
        · rw [su_length f]; simp
theorem siftup_length (xs : List α) : (siftup lt xs).length = xs.length := by
  unfold siftup; split
  · rw [siftdown_length, List.length_set, su_length]
  · rfl
theorem sd_mem (new : α) : ∀ (f : Nat) (xs : List α) (pos : Nat) (a : α), a ∈ sd lt new f xs pos → a = new ∨ a ∈ xs
  | 0, xs, pos, a, h => (List.mem_or_eq_of_mem_set h).symm
  | f + 1, xs, pos, a, h => by
    unfold sd at h
    split at h
    · exact (List.mem_or_eq_of_mem_set h).symm
    · split at h
      · rename_i p hp
        split at h
        · rcases sd_mem new f _ _ a h with h | h
          · exact .inl h
          · rcases List.mem_or_eq_of_mem_set h with h | h
            · exact .inr h
            · exact .inr (h ▸ List.mem_of_getElem? hp)
        · exact (List.mem_or_eq_of_mem_set h).symm
      · exact (List.mem_or_eq_of_mem_set h).symm
theorem siftdown_mem {xs : List α} {pos : Nat} {a : α} (h : a ∈ siftdown lt xs pos) : a ∈ xs := by
  unfold siftdown at h
  split at h
  · rename_i new hn
    rcases sd_mem _ _ _ _ _ h with h | h
    · exact h ▸ List.mem_of_getElem? hn
    · exact h
  · exact h
theorem su_mem : ∀ (f : Nat) (xs : List α) (pos : Nat) (a : α), a ∈ (su lt f xs pos).1 → a ∈ xs
  | 0, xs, pos, a, h => h
  | f + 1, xs, pos, a, h => by
    unfold su at h
    split at h
    · exact h
    · rename_i c hc
      split at h
      · rcases List.mem_or_eq_of_mem_set (su_mem f _ _ a h) with h | h
        · exact h
        · exact h ▸ List.mem_of_getElem? hc
      · rename_i r hr
        split at h
        · rcases List.mem_or_eq_of_mem_set (su_mem f _ _ a h) with h | h
          · exact h
          · exact h ▸ List.mem_of_getElem? hc
        · rcases List.mem_or_eq_of_mem_set (su_mem f _ _ a h) with h | h
          · exact h
          · exact h ▸ List.mem_of_getElem? hr
theorem siftup_mem {xs : List α} {a : α} (h : a ∈ siftup lt xs) : a ∈ xs := by
  unfold siftup at h
  split at h
  · rename_i new hn
    rcases List.mem_or_eq_of_mem_set (siftdown_mem h) with h | h
    · exact su_mem _ _ _ _ h
    · exact h ▸ List.mem_of_getElem? hn
  · exact h
theorem sd_map (f : β → α) (new : β) : ∀ (k : Nat) (xs : List β) (pos : Nat), (sd (fun a b => lt (f a) (f b)) new k xs pos).map f = sd lt (f new) k (xs.map f) pos
  | 0, xs, pos => by simp [sd, List.map_set]
  | k + 1, xs, pos => by
    unfold sd
    split
    · rw [List.map_set]
    · rw [List.getElem?_map]
      cases h : xs[(pos - 1) / 2]? with
      | none => simp [List.map_set]
      | some p =>
        simp only [Option.map_some]
        split
        · rw [sd_map f new k, List.map_set]
        · rw [List.map_set]
theorem siftdown_map (f : β → α) (xs : List β) (pos : Nat) : (siftdown (fun a b => lt (f a) (f b)) xs pos).map f = siftdown lt (xs.map f) pos := by
  unfold siftdown
  rw [List.getElem?_map]
  cases h : xs[pos]? with
  | none => rfl
  | some new => exact sd_map f new _ _ _
theorem su_map (f : β → α) : ∀ (k : Nat) (xs : List β) (pos : Nat), su lt k (xs.map f) pos = ((su (fun a b => lt (f a) (f b)) k xs pos).1.map f, (su (fun a b => lt (f a) (f b)) k xs pos).2)
  | 0, xs, pos => rfl
  | k + 1, xs, pos => by
    unfold su
    rw [List.getElem?_map, List.getElem?_map]
    cases h : xs[2 * pos + 1]? with
    | none => rfl
    | some c =>
      cases h2 : xs[2 * pos + 2]? with
      | none =>
        simp only [Option.map_some, Option.map_none]
        rw [← List.map_set, su_map f k]
      | some r =>
        simp only [Option.map_some]
        split
        · rw [← List.map_set, su_map f k]
        · rw [← List.map_set, su_map f k]
theorem siftup_map (f : β → α) (xs : List β) : (siftup (fun a b => lt (f a) (f b)) xs).map f = siftup lt (xs.map f) := by
  unfold siftup
  rw [List.getElem?_map]
  cases h : xs[0]? with
  | none => rfl
  | some new =>
    simp only [Option.map_some, List.length_map]
    rw [siftdown_map, List.map_set, su_map]
end
end Mine
namespace Mine
section
variable {α β : Type}
/-- one turn: the top gives way to its first kid, the two others are pushed -/
def stepG (lt : α → α → Bool) (k0 k1 k2 : α → α) (st : List α × List α) : List α × List α :=
  match st.1[0]? with
  | none => st
  | some top =>
    let h1 := siftup lt (st.1.set 0 (k0 top))
    let h2 := siftdown lt (h1 ++ [k1 top]) h1.length
    (siftdown lt (h2 ++ [k2 top]) h2.length, st.2 ++ [top])
def simG (lt : α → α → Bool) (k0 k1 k2 : α → α) (s0 : α) : Nat → List α × List α
  | 0 => ([s0], [])
  | n + 1 => stepG lt k0 k1 k2 (simG lt k0 k1 k2 s0 n)
theorem simG_length (lt : α → α → Bool) (k0 k1 k2 : α → α) (s0 : α) : ∀ n, (simG lt k0 k1 k2 s0 n).1.length = 2 * n + 1 ∧ (simG lt k0 k1 k2 s0 n).2.length = n
  | 0 => ⟨rfl, rfl⟩
  | n + 1 => by
    obtain ⟨h1, h2⟩ := simG_length lt k0 k1 k2 s0 n
    unfold simG stepG
    rw [List.getElem?_eq_getElem (by omega)]
    simp only [siftdown_length, siftup_length, List.length_append, List.length_set, List.length_cons, List.length_nil]
    omega
/-- what holds of the start and passes to kids holds of all -/
theorem simG_all {lt : α → α → Bool} {k0 k1 k2 : α → α} {s0 : α} (P : Nat → α → Prop) (hm : ∀ n x, P n x → P (n + 1) x) (h0 : P 0 s0) (hk0 : ∀ n x, P n x → P (n + 1) (k0 x)) (hk1 : ∀ n x, P n x → P (n + 1) (k1 x)) (hk2 : ∀ n x, P n x → P (n + 1) (k2 x)) :
    ∀ n, (∀ x ∈ (simG lt k0 k1 k2 s0 n).1, P n x) ∧ (∀ x ∈ (simG lt k0 k1 k2 s0 n).2, P n x)
  | 0 => ⟨fun x hx => by rw [List.mem_singleton.mp hx]; exact h0, fun x hx => nomatch hx⟩
  | n + 1 => by
    obtain ⟨ih1, ih2⟩ := simG_all P hm h0 hk0 hk1 hk2 n
    have hl := (simG_length lt k0 k1 k2 s0 n).1
    unfold simG stepG
    rw [List.getElem?_eq_getElem (by omega)]
    have ht : P n ((simG lt k0 k1 k2 s0 n).1[0]) := ih1 _ (List.getElem_mem _)
    refine ⟨fun x hx => ?_, fun x hx => ?_⟩
    · rcases List.mem_append.mp (siftdown_mem hx) with hx | hx
      · rcases List.mem_append.mp (siftdown_mem hx) with hx | hx
        · rcases List.mem_or_eq_of_mem_set (siftup_mem hx) with hx | hx
          · exact hm _ _ (ih1 _ hx)
          · exact hx ▸ hk0 _ _ ht
        · exact (List.mem_singleton.mp hx) ▸ hk1 _ _ ht
      · exact (List.mem_singleton.mp hx) ▸ hk2 _ _ ht
    · rcases List.mem_append.mp hx with hx | hx
      · exact hm _ _ (ih2 _ hx)
      · exact (List.mem_singleton.mp hx) ▸ hm _ _ ht
theorem stepG_map {lt : α → α → Bool} {k0 k1 k2 : α → α} {j0 j1 j2 : β → β} (f : β → α) (h0 : ∀ x, f (j0 x) = k0 (f x)) (h1 : ∀ x, f (j1 x) = k1 (f x)) (h2 : ∀ x, f (j2 x) = k2 (f x)) (st : List β × List β) :
    stepG lt k0 k1 k2 (st.1.map f, st.2.map f) = ((stepG (fun a b => lt (f a) (f b)) j0 j1 j2 st).1.map f, (stepG (fun a b => lt (f a) (f b)) j0 j1 j2 st).2.map f) := by
  unfold stepG
  dsimp only
  rw [List.getElem?_map]
  cases h : st.1[0]? with
  | none => rfl
  | some top =>
    simp only [Option.map_some]
    rw [siftdown_map, List.map_append, siftdown_map, List.map_append, siftup_map, List.map_set]
    simp only [siftup_length, siftdown_length, List.length_append, List.length_set, List.length_map, List.length_cons, List.length_nil, List.map_cons, List.map_nil, h0, h1, h2, List.map_append]
theorem simG_map {lt : α → α → Bool} {k0 k1 k2 : α → α} {j0 j1 j2 : β → β} (f : β → α) (h0 : ∀ x, f (j0 x) = k0 (f x)) (h1 : ∀ x, f (j1 x) = k1 (f x)) (h2 : ∀ x, f (j2 x) = k2 (f x)) (s0 : β) :
    ∀ n, simG lt k0 k1 k2 (f s0) n = ((simG (fun a b => lt (f a) (f b)) j0 j1 j2 s0 n).1.map f, (simG (fun a b => lt (f a) (f b)) j0 j1 j2 s0 n).2.map f)
  | 0 => rfl
  | n + 1 => by
    unfold simG
    rw [simG_map f h0 h1 h2 s0 n, stepG_map f h0 h1 h2]
end
end Mine
end

-- Lc
section
open PySem PySem.W PyProof.Rows
namespace Mine
open PySem.Calls PySem.Spec PyProof.Rows.LCg PyProof.Rows.LCt
set_option linter.unusedVariables false
set_option maxRecDepth 100000
set_option maxHeartbeats 4000000
section
variable {prog : Program} {w : World} {A : Around} {s : Shared} {h₀ : Heap} {L : Addr} {m : Str → Option Value} {env : Env} {elt ct : Expr} {x : Str} {scope : Scope} {cl : List (Str × Addr)} {S : List (Addr × Obj) → Prop} {P : Nat → Value → Prop} {Fin : List Value → List (Addr × Obj) → Prop} {n : Nat}

theorem compEnd_mono {I C D : Addr} {oI oC oD : Obj} {s₁ s₂ : Shared} {R R' : Value → List (Addr × Obj) → Prop} {y : Value} (h : CompEnd h₀ L m s₁ I oI C oC D oD S R y s₂) (hr : ∀ nw, S nw → R y nw → R' y nw) : CompEnd h₀ L m s₁ I oI C oC D oD S R' y s₂ := by
  obtain ⟨h', tk, nw, e, F, N, o, hS, r⟩ := h
  exact ⟨h', tk, nw, e, F, N, o, hS, hr nw hS r⟩

/-- a comprehension by what holds of what it has gathered -/
theorem compU_fold (R : Nat → List Value → List (Addr × Obj) → Prop) (hfin : ∀ ys nw, R n ys nw → Fin ys nw)
    (step : ∀ i ys nw, i < n → R i ys nw → ∀ v I oI C oC D m₂ h tk (E' : Value → Shared → Prop), P i v → NsObj oC m₂ → m₂ x = some v → Fr h₀ L h m → News h₀ L h ((I, oI) :: (C, oC) :: (D, lst ys) :: nw) → Off3 I C D nw → ((@Ne Nat I C) ∧ (@Ne Nat I D) ∧ (@Ne Nat C D)) →
      wpAny (model prog w) A (eval elt (compEnvC scope cl C env)) (CompEnd h₀ L m { s with heap := h, toks := tk } I oI C oC D (lst ys) S (fun y news' => R (i + 1) (ys ++ [y]) news')) E' { s with heap := h, toks := tk }) :
    ∀ k i ys nw, i + k = n → R i ys nw → CompRest prog w A h₀ L m env elt x scope cl s S P Fin k i ys nw
  | 0, i, ys, nw, e, r => by
    have : i = n := by omega
    subst this
    exact hfin ys nw r
  | k + 1, i, ys, nw, e, r => by
    refine CompRest.succ fun v I oI C oC D m₂ h tk E' hP ho hx F N off hne => ?_
    refine wpAny_mono (step i ys nw (by omega) r v I oI C oC D m₂ h tk E' hP ho hx F N off hne) (fun y s' hy => ?_) fun _ _ e => e
    exact compEnd_mono hy fun nw' _ r' => compU_fold R hfin step k (i + 1) (ys ++ [y]) nw' (by omega) r'

/-- the same with one test -/
theorem compT_fold (R : Nat → List Value → List (Addr × Obj) → Prop) (hfin : ∀ ys nw, R n ys nw → Fin ys nw)
    (step : ∀ i ys nw, i < n → R i ys nw → ∀ v I oI C oC D m₂ h tk (E' : Value → Shared → Prop), P i v → NsObj oC m₂ → m₂ x = some v → Fr h₀ L h m → News h₀ L h ((I, oI) :: (C, oC) :: (D, lst ys) :: nw) → Off3 I C D nw → ((@Ne Nat I C) ∧ (@Ne Nat I D) ∧ (@Ne Nat C D)) →
      wpAny (model prog w) A (isTrue ct (compEnvC scope cl C env) (eval ct (compEnvC scope cl C env))) (fun ok s' => if ok = true then
        wpAny (model prog w) A (eval elt (compEnvC scope cl C env)) (CompEnd h₀ L m { s with heap := h, toks := tk } I oI C oC D (lst ys) S (fun y news' => R (i + 1) (ys ++ [y]) news')) E' s'
        else CompEnd h₀ L m { s with heap := h, toks := tk } I oI C oC D (lst ys) S (fun _ news' => R (i + 1) ys news') Value.none s') E' { s with heap := h, toks := tk }) :
    ∀ k i ys nw, i + k = n → R i ys nw → CompRestT prog w A h₀ L m env ct elt x scope cl s S P Fin k i ys nw
  | 0, i, ys, nw, e, r => by
    have : i = n := by omega
    subst this
    exact hfin ys nw r
  | k + 1, i, ys, nw, e, r => by
    refine CompRestT.succ fun v I oI C oC D m₂ h tk E' hP ho hx F N off hne => ?_
    refine wpAny_mono (step i ys nw (by omega) r v I oI C oC D m₂ h tk E' hP ho hx F N off hne) (fun ok s' hok => ?_) fun _ _ e => e
    cases ok with
    | true =>
      simp only [if_true] at hok ⊢
      exact wpAny_mono hok (fun y s'' hy => compEnd_mono hy fun nw' _ r' => compT_fold R hfin step k (i + 1) (ys ++ [y]) nw' (by omega) r') fun _ _ e => e
    | false =>
      simp only [Bool.false_eq_true, if_false] at hok ⊢
      exact compEnd_mono hok fun nw' _ r' => compT_fold R hfin step k (i + 1) ys nw' (by omega) r'
end
end Mine
end

-- W1
section
open PySem PySem.W PyProof.Rows
namespace Mine
set_option linter.unusedVariables false
set_option linter.unusedSimpArgs false
set_option maxRecDepth 100000
set_option maxHeartbeats 8000000

/-- what a writer does: the text escaped, nothing else -/
def WriteOk (w : World) (mean : ExcName → Option Value) (mg mb : Str → Option Value) (f : Addr) (esc : List Nat → List Nat) : Prop :=
  ∀ {dp un : Nat} {gd : Option (List Code)} {cn : Str} {cs : Scope} {a : Addr} {ccd : Value} {cl : List (Str × Addr)} {outer : List Env} {A₀ : Around} {base h₀ : Heap} {L : Addr} {m : Str → Option Value} {s : Shared} {Q E : Value → Shared → Prop}
   {news : List (Addr × Obj)} {l : List Nat} {t : Tok},
   Below A₀ base outer h₀ → Fr h₀ L s.heap m → (hd.heap_39 w.params).In h₀ → News h₀ L s.heap news →
   Top hd.view_39 (looseW hd.view_39 []) mean mg mb h₀ → cs.kind = .function →
   l.length ≤ 20 → dp + 3 < recursionLimit → un + 40 < cLine →
   (∀ h' tk' t', Fr h₀ L h' m → News h₀ L h' news → Q (.str (S (esc l)) t') { s with heap := h', toks := tk' }) →
   wpAny (model Challenge.rw_mr0207_01.row.prog w) (ktrTop dp un gd cn cs L a ccd cl outer) (call (.ref f) [.str (S l) t]) Q E s

theorem len_S {prog : Program} {w : World} {A : Around} {E : Value → Shared → Prop} {s : Shared} {l : List Nat} {t : Tok} {Q : Value → Shared → Prop} (hz : l.length < 1000000)
    (h : Q (.int (l.length : Nat) (s.toks + 1)) { s with toks := s.toks + 1 + 1 }) : wpAny (model prog w) A (call (.builtin "len") [.str (S l) t]) Q E s := by
  have e : (S l).length = l.length := by show l.toArray.size = _; rw [List.size_toArray]
  refine PySem.P.len_str (by rw [e]; omega) ?_
  rw [e]; exact h

def entW (b : List Nat) (esc : List Nat → List Nat) (u : List Nat) : Ent := ⟨((esc (b ++ u)).length : Int), S (b ++ u), S (esc (b ++ u))⟩
def simW (b : List Nat) (esc : List Nat → List Nat) (c0 c1 c2 : Nat) (n : Nat) : List (List Nat) × List (List Nat) :=
  simG (fun u v => entLt (entW b esc u) (entW b esc v)) (fun u => u ++ [c0]) (fun u => u ++ [c1]) (fun u => u ++ [c2]) [] n
theorem kstB_self {m : Str → Option Value} {ps : List (Str × Value)} (h : ∀ p ∈ ps, m p.1 = some p.2) : m = kstB m ps := funext fun z => (kstB_eq h (fun _ => rfl)).symm
theorem EntIn.sub {l l' : List (Addr × Obj)} {a : Addr} {e : Ent} (hs : ∀ p ∈ l, p ∈ l') : EntIn l a e → EntIn l' a e
  | ⟨t1, t2, t3, k, h⟩ => ⟨t1, t2, t3, k, hs _ h⟩
theorem add_S {prog : Program} {w : World} {A : Around} {E : Value → Shared → Prop} {s : Shared} {l k : List Nat} {t u : Tok} {Q : Value → Shared → Prop} (hz : l.length + k.length < 1000000)
    (h : ∀ t' tk, Q (.str (S (l ++ k)) t') { s with toks := tk }) : wpAny (model prog w) A (binaryOp .Add (.str (S l) t) (.str (S k) u)) Q E s := by
  have e : S l ++ S k = S (l ++ k) := by
    show (⟨l.toArray ++ k.toArray⟩ : Str) = ⟨(l ++ k).toArray⟩
    simp
  have eL : (S l).length = l.length := by show l.toArray.size = _; rw [List.size_toArray]
  have eK : (S k).length = k.length := by show k.toArray.size = _; rw [List.size_toArray]
  refine PyProof.Rows.add_str (fun t' tk => ?_) (by rw [eL, eK, sizeLine]; omega)
  rw [e]
  exact h t' tk

/-- within a turn: the fresh ones made so far -/
def IJ (f sg hp tl : Addr) (txt : List Nat) (q2 : Tok) (esc : List Nat → List Nat) (cs : List Nat) (NX : List (Addr × Obj)) (k : Nat) (m : Str → Option Value) (nx : List (Addr × Obj)) : Prop :=
  ∃ (fr : Addr) (fs : List Addr) (es : List (Addr × Obj)) (nf : Nat) (u : Str → Option Value),
    nx = (fr, listOf (refs fs).toArray nf) :: (es ++ NX) ∧
    m = kstB u [(Str.ofString "write", .ref f), (Str.ofString "signs", .ref sg), (Str.ofString "heap", .ref hp), (Str.ofString "told", .ref tl), (Str.ofString "text", .str (S txt) q2), (Str.ofString "fresh", .ref fr)] ∧
    fs.length = k ∧ (∀ p ∈ NX, p.1 < fr) ∧ (∀ p ∈ es, fr < p.1) ∧ fs.Nodup ∧
    (∀ (j : Nat) (a : Addr), fs[j]? = some a → ∃ c : Nat, cs[j]? = some c ∧ EntIn es a ⟨((esc (txt ++ [c])).length : Int), S (txt ++ [c]), S (esc (txt ++ [c]))⟩)

theorem refs_push (as : List Addr) (x : Addr) : (refs as).toArray.push (.ref x) = (refs (as ++ [x])).toArray := by simp

theorem ij_end {h₀ h' : Heap} {L f sg hp tl fr l9 : Addr} {txt : List Nat} {q2 ta tb tc : Tok} {esc : List Nat → List Nat} {cs fs : List Nat} {NX es own2 : List (Addr × Obj)} {k nf c tk : Nat} {m' : Str → Option Value} {s₁ : Shared} {osg : Obj}
    (F : Fr h₀ L h' m') (N : News h₀ L h' ((l9, listOf [Value.int ((esc (txt ++ [c])).length : Nat) ta, Value.str (S (txt ++ [c])) tb, Value.str (S (esc (txt ++ [c]))) tc].toArray 0) :: (fr, listOf (refs (fs ++ [l9])).toArray (nf + 1)) :: (es ++ NX ++ own2)))
    (hm : ∀ p ∈ [(Str.ofString "write", Value.ref f), (Str.ofString "signs", .ref sg), (Str.ofString "heap", .ref hp), (Str.ofString "told", .ref tl), (Str.ofString "text", .str (S txt) q2), (Str.ofString "fresh", .ref fr)], m' p.1 = some p.2)
    (hsg : (sg, osg) ∈ NX) (hown2 : TbOff own2 ((fr, listOf (refs fs).toArray nf) :: (es ++ NX))) (l5 : fr < l9 ∧ AllLt l9 (es ++ NX ++ own2)) (hc : cs[k]? = some c)
    (hfl : fs.length = k) (hfr : ∀ p ∈ NX, p.1 < fr) (hes : ∀ p ∈ es, fr < p.1) (hnd : fs.Nodup)
    (hfs : ∀ (j : Nat) (a : Addr), fs[j]? = some a → ∃ c : Nat, cs[j]? = some c ∧ EntIn es a ⟨((esc (txt ++ [c])).length : Int), S (txt ++ [c]), S (esc (txt ++ [c]))⟩) :
    TbEnd h₀ L (fun m' nx => (sg, osg) ∈ nx ∧ IJ f sg hp tl txt q2 esc cs NX (k + 1) m' nx) own2 s₁ { s₁ with heap := h', toks := tk } := by
  have hall := ktn_ltOf l5.2
  have hnew : ∀ a e, EntIn es a e → a < l9 := by
    rintro a e ⟨_, _, _, _, hm⟩
    exact hall _ (List.mem_append_left _ (List.mem_append_left _ hm))
  refine ⟨_, _, _, _, (fr, listOf (refs (fs ++ [l9])).toArray (nf + 1)) :: (((l9, listOf [Value.int ((esc (txt ++ [c])).length : Nat) ta, Value.str (S (txt ++ [c])) tb, Value.str (S (esc (txt ++ [c]))) tc].toArray 0) :: es) ++ NX), rfl, F, N, ?_, ?_, ?_, ?_, fr, fs ++ [l9], _, nf + 1, _, rfl, kstB_self hm, ?_, hfr, ?_, ?_, ?_⟩
  · refine List.forall_mem_cons.mpr ⟨.tail _ (.head _), ?_⟩
    refine List.forall_mem_cons.mpr ⟨.head _, fun p h => .tail _ (.tail _ (List.mem_append_left _ h))⟩
  · exact fun p h => .tail _ (.tail _ (List.mem_append_right _ h))
  · intro p hp' q hq
    rcases List.mem_cons.mp hq with rfl | hq
    · exact hown2 p hp' (fr, listOf (refs fs).toArray nf) (.head _)
    · rcases List.mem_cons.mp hq with rfl | hq
      · exact Nat.ne_of_lt (hall p (List.mem_append_right _ hp'))
      · exact hown2 p hp' _ (.tail _ hq)
  · exact .tail _ (.tail _ (List.mem_append_right _ hsg))
  · simp [hfl]
  · exact List.forall_mem_cons.mpr ⟨l5.1, hes⟩
  · refine List.nodup_append.mpr ⟨hnd, by simp, ?_⟩
    intro a ha b hb
    rw [List.mem_singleton.mp hb]
    obtain ⟨j, hj⟩ := List.mem_iff_getElem?.mp ha
    obtain ⟨_, _, hE1⟩ := hfs j a hj
    exact Nat.ne_of_lt (hnew _ _ hE1)
  · intro j a hj
    by_cases hjk : j < fs.length
    · rw [List.getElem?_append_left hjk] at hj
      obtain ⟨c', h1, h2⟩ := hfs j a hj
      exact ⟨c', h1, EntIn.tail h2⟩
    · have hj' : j = fs.length := by
        have := (List.getElem?_eq_some_iff.mp hj).1
        simp at this
        omega
      subst hj'
      rw [List.getElem?_append_right (Nat.le_refl _), Nat.sub_self] at hj
      have : l9 = a := Option.some.inj hj
      subst this
      exact ⟨c, by rw [hfl]; exact hc, _, _, _, _, .head _⟩

theorem turn_data {has : List Addr} {D : Addr → Ent} {hw tw : List (List Nat)} {En : List Nat → Ent} {top w0 w1 w2 : List Nat} {f0 f1 f2 : Addr} {k0 k1 k2 : List Nat → List Nat}
    (hm : has.map D = hw.map En) (ht : hw[0]? = some top) (h0 : D f0 = En (k0 top)) (h1 : D f1 = En (k1 top)) (h2 : D f2 = En (k2 top)) :
    (siftdown (fun a b => entLt (D a) (D b)) (siftdown (fun a b => entLt (D a) (D b)) (siftup (fun a b => entLt (D a) (D b)) (has.set 0 f0) ++ [f1]) (siftup (fun a b => entLt (D a) (D b)) (has.set 0 f0)).length ++ [f2])
      (siftdown (fun a b => entLt (D a) (D b)) (siftup (fun a b => entLt (D a) (D b)) (has.set 0 f0) ++ [f1]) (siftup (fun a b => entLt (D a) (D b)) (has.set 0 f0)).length).length).map D
    = (stepG (fun u v => entLt (En u) (En v)) k0 k1 k2 (hw, tw)).1.map En := by
  have hl : has.length = hw.length := by have := congrArg List.length hm; simpa using this
  unfold stepG
  dsimp only
  rw [ht]
  dsimp only
  rw [siftdown_map, List.map_append, siftdown_map, List.map_append, siftup_map, List.map_set, hm, siftdown_map, List.map_append, siftdown_map, List.map_append, siftup_map, List.map_set]
  simp only [siftup_length, siftdown_length, List.length_append, List.length_set, List.length_map, List.length_cons, List.length_nil, List.map_cons, List.map_nil, h0, h1, h2, hl]

/-- between two turns of the walk -/
def WJ (f sg : Addr) (news : List (Addr × Obj)) (b : List Nat) (esc : List Nat → List Nat) (c0 c1 c2 : Nat) (i : Nat) (m : Str → Option Value) (nx : List (Addr × Obj)) : Prop :=
  ∃ (hp tl : Addr) (has tas : List Addr) (rest : List (Addr × Obj)) (D : Addr → Ent) (n1 n2 : Nat) (u : Str → Option Value),
    nx = (tl, listOf (refs tas).toArray n2) :: (hp, listOf (refs has).toArray n1) :: rest ∧
    m = kstB u [(Str.ofString "write", .ref f), (Str.ofString "signs", .ref sg), (Str.ofString "heap", .ref hp), (Str.ofString "told", .ref tl)] ∧
    hp ≠ tl ∧ (∀ p ∈ rest, p.1 ≠ hp) ∧ (∀ p ∈ rest, p.1 ≠ tl) ∧ (∀ a ∈ has, EntIn rest a (D a)) ∧ (∀ a ∈ tas, EntIn rest a (D a)) ∧ (∀ p ∈ news, p ∈ rest) ∧
    has.map D = (simW b esc c0 c1 c2 i).1.map (entW b esc) ∧ tas.map D = (simW b esc c0 c1 c2 i).2.map (entW b esc)

local macro_rules | `(tactic| ktr_unf) => `(tactic| repeat' (
  (fail_if_success (with_reducible show wpAny _ _ (exec (Stmt.For _ _ _ _ _) _) _ _ _));
  (fail_if_success (with_reducible show wpAny _ _ (pyIter (Value.ref _)) _ _ _));
  (fail_if_success (with_reducible show wpAny _ _ (binaryOp Operator.Add (Value.str _ _) (Value.str _ _)) _ _ _));
  (fail_if_success (with_reducible show wpAny _ _ (call (Value.builtin "list.append") _ _) _ _ _));
  (fail_if_success (with_reducible show wpAny _ _ (call (Value.builtin "len") _ _) _ _ _));
  (fail_if_success (with_reducible show wpAny _ _ (callWith _ (Value.ref _) _ _ _) _ _ _));
  (fail_if_success (with_reducible show wpAny _ _ (subscriptTail _ _ (Value.ref _) (Value.int _ _)) _ _ _));
  (fail_if_success (with_reducible show wpAny _ _ (call (Value.ref _) _ _) _ _ _));
  (fail_if_success (with_reducible show TbEnd _ _ _ _ _ _));
  first | (k_unfold; (try dsimp only)) | walk1 | (dsimp only; walk1) | (leave1; walk_say "STEP leave1"; try dsimp only) | fail "no step"))

theorem walked_c {w : World} {mean : ExcName → Option Value} {mg mb : Str → Option Value} {dp un : Nat} {gd : Option (List Code)} {cn : Str} {cs : Scope} {a : Addr} {ccd : Value} {cl : List (Str × Addr)} {outer : List Env} {A₀ : Around} {base h₀ : Heap} {L : Addr} {m : Str → Option Value} {s : Shared} {Q E : Value → Shared → Prop}
   {news : List (Addr × Obj)} {b : List Nat} {t : Tok} {f sg : Addr} {c0 c1 c2 : Nat} {esc : List Nat → List Nat} {s0 s1 s2 : Tok} {ns : Nat}
   (B : Below A₀ base outer h₀) (F : Fr h₀ L s.heap m) (X : (hd.heap_39 w.params).In h₀) (N : News h₀ L s.heap news)
   (T : Top hd.view_39 (looseW hd.view_39 []) mean mg mb h₀) (hk : cs.kind = .function)
   (hW : WriteOk w mean mg mb f esc) (hf : keepIn (hd.heap_39 w.params) (.ref f) = true)
   (hsg : (sg, listOf [.str (S [c0]) s0, .str (S [c1]) s1, .str (S [c2]) s2].toArray ns) ∈ news)
   (hlen : b.length ≤ 4) (hE : ∀ l, (esc l).length ≤ 6 * l.length) (hdp : dp + 6 < recursionLimit) (hun : un + 60 < cLine)
   (ret : ∀ h' tk' (tl : Addr) (tas : List Addr) (n2 : Nat) (rest : List (Addr × Obj)) (D : Addr → Ent), Fr h₀ L h' m → News h₀ L h' ((tl, listOf (refs tas).toArray n2) :: rest) → (∀ p ∈ news, p ∈ rest) → (∀ a ∈ tas, EntIn rest a (D a)) →
     tas.map D = (simW b esc c0 c1 c2 10).2.map (entW b esc) → Q (.ref tl) { s with heap := h', toks := tk' }) :
   wpAny (model Challenge.rw_mr0207_01.row.prog w) (ktrTop dp un gd cn cs L a ccd cl outer) (call (.ref 112) [.ref f, .str (S b) t, .ref sg]) Q E s := by
  refine wpAny_call ?_
  k_dflt ktr_enter
  ktr_unf
  refine callWith_K (by assumption) hf ?_
  ktr_unf
  refine hW (by assumption) (by assumption) (by assumption) (by assumption) (by assumption) rfl (by omega) (by show dp + 1 + 3 < _; omega) (by show un + 3 + 40 < _; omega) ?_
  intro h1 tk1 t1 F1 N1
  ktr_unf
  have hEb := hE b
  refine len_S (by omega) ?_
  ktr_unf
  rename Fr _ _ _ _ => F2
  refine For_invVF F2 rfl rfl ?_ (by intro _; rfl) (by with_unfolding_all passes_own)
  ktr_unf
  rename IsRange _ _ _ _ _ _ _ _ => hR
  rename Fr _ _ _ _ => F3
  rename News _ _ _ _ => N3
  refine lp_range (WJ f sg news b esc c0 c1 c2) rfl hR (by decide +kernel) (n := 10) (by decide +kernel) F3 N3 ?_ ?_ ?_
  · rename _ ∧ _ ∧ AllLt _ _ => l3
    rename _ ∧ AllLt _ _ => l2
    have eD : entW b esc [] = ⟨((esc b).length : Int), S b, S (esc b)⟩ := by simp [entW]
    refine ⟨_, _, [_], [], _, fun _ => entW b esc [], 0, 0, _, rfl, kstB_self (by kst_all), ?_, ?_, ?_, ?_, ?_, ?_, rfl, rfl⟩
    · exact Nat.ne_of_lt l3.1
    · exact List.forall_mem_cons.mpr ⟨Nat.ne_of_lt l2.1, fun p h => Nat.ne_of_lt (ktn_ltOf l2.2 p h)⟩
    · exact List.forall_mem_cons.mpr ⟨Nat.ne_of_lt l3.2.1, fun p h => Nat.ne_of_lt (ktn_ltOf l3.2.2 p h)⟩
    · intro a ha
      rw [List.mem_singleton.mp ha, eD]
      exact ⟨_, _, _, _, .head _⟩
    · intro a ha
      exact nomatch ha
    · exact fun p h => .tail _ h
  · rintro i t5 m1 nx h4 tk4 own hi hown ⟨hp, tl, has, tas, rest, D, n1, n2, u, rfl, rfl, hne, ho1, ho2, hD1, hD2, hold, hm1, hm2⟩ F4 N4
    dsimp only [kstB, List.cons_append] at F4 N4 ⊢
    have hlen1 : has.length = 2 * i + 1 := by
      have := congrArg List.length hm1
      rw [List.length_map, List.length_map] at this
      rw [this]; exact (simG_length ..).1
    ktr_unf
    refine item_any (by assumption) (by k_mem) (by omega) (by omega) (refs_get (i := 0) (by omega)) ?_ (by with_unfolding_all rfl)
    ktr_unf
    have hl0 : 0 < (simW b esc c0 c1 c2 i).1.length := by rw [simW, (simG_length ..).1]; omega
    obtain ⟨top, htop⟩ : ∃ top, (simW b esc c0 c1 c2 i).1[0]? = some top := ⟨_, List.getElem?_eq_getElem hl0⟩
    have eTop : D has[0] = entW b esc top := by
      have h1 : (has.map D)[0]? = ((simW b esc c0 c1 c2 i).1.map (entW b esc))[0]? := by rw [hm1]
      rw [List.getElem?_map, List.getElem?_map, htop, List.getElem?_eq_getElem (by omega)] at h1
      exact Option.some.inj h1
    have hTopLen : top.length ≤ i := (simG_all (fun n x => x.length ≤ n) (fun n x h => by omega) (by simp) (fun n x h => by simp; omega) (fun n x h => by simp; omega) (fun n x h => by simp; omega) i).1 top (List.mem_of_getElem? htop)
    obtain ⟨q1, q2, q3, q4, hmem⟩ := hD1 has[0] (List.getElem_mem _)
    rw [eTop] at hmem
    dsimp only [entW] at hmem
    dsimp only
    refine item_any (k := 1) (by assumption) (List.Mem.tail _ (List.Mem.tail _ (List.mem_append_left _ hmem))) (by omega) (by omega) rfl ?_ (by with_unfolding_all rfl)
    ktr_unf
    rename Fr _ _ _ _ => F5
    refine For_invVF F5 rfl rfl ?_ (by intro _; rfl) (by with_unfolding_all passes_own)
    ktr_unf
    rename _ ∧ _ ∧ AllLt _ _ => l4
    rename News _ _ _ _ => N6
    rename Fr _ _ _ _ => F6
    refine lp_list (IJ f sg hp tl (b ++ top) q2 esc [c0, c1, c2] ((tl, listOf (refs tas).toArray n2) :: (hp, listOf (refs has).toArray n1) :: (rest ++ own))) rfl (List.Mem.tail _ (List.Mem.tail _ (List.Mem.tail _ (List.mem_append_left _ (hold _ hsg))))) F6 N6 ?_ ?_ ?_
    · refine ⟨_, [], [], 0, _, rfl, kstB_self (by kst_all), rfl, ?_, (by intro p h; exact nomatch h), List.nodup_nil, (by intro j a h; simp at h)⟩
      exact List.forall_mem_cons.mpr ⟨l4.1, List.forall_mem_cons.mpr ⟨l4.2.1, ktn_ltOf l4.2.2⟩⟩
    · rintro k v m2 nx2 h7 tk7 own2 hv hown2 hsg2 ⟨fr, fs, es, nf, u2, rfl, rfl, hfl, hfr, hes, hnd, hfs⟩ F7 N7
      dsimp only [kstB, List.cons_append] at F7 N7 ⊢
      obtain ⟨c, sk, rfl, hc⟩ : ∃ c sk, v = .str (S [c]) sk ∧ [c0, c1, c2][k]? = some c := by
        match k, hv with
        | 0, h => exact ⟨_, _, (Option.some.inj h).symm, rfl⟩
        | 1, h => exact ⟨_, _, (Option.some.inj h).symm, rfl⟩
        | 2, h => exact ⟨_, _, (Option.some.inj h).symm, rfl⟩
        | n + 3, h => simp at h
      have hEc := hE (b ++ top ++ [c])
      simp only [List.length_append, List.length_cons, List.length_nil] at hEc
      ktr_unf
      refine callWith_K (by assumption) hf ?_
      ktr_unf
      refine add_S (by simp; omega) ?_
      intro t8 tk8
      ktr_unf
      refine hW (by assumption) (by assumption) (by assumption) (by assumption) (by assumption) rfl (by simp; omega) (by show dp + 1 + 3 < _; omega) (by show un + 3 + 40 < _; omega) ?_
      intro h9 tk9 t9 F9 N9
      ktr_unf
      refine len_S (by omega) ?_
      ktr_unf
      refine add_S (by simp; omega) ?_
      intro t10 tk10
      ktr_unf
      rename_i l9 h10 F10 N10 l5
      have hall := ktn_ltOf l5.2
      have hk3 : k < 3 := (List.getElem?_eq_some_iff.mp hc).1
      have hall2 : ∀ p ∈ es ++ (tl, listOf (refs tas).toArray n2) :: (hp, listOf (refs has).toArray n1) :: (rest ++ own) ++ own2, p.1 ≠ fr := by
        intro p hp'
        rcases List.mem_append.mp hp' with h | h
        · rcases List.mem_append.mp h with h | h
          · exact Nat.ne_of_gt (hes p h)
          · exact Nat.ne_of_lt (hfr p h)
        · exact hown2 p h _ (.head _)
      refine append_K F10 N10 (Upd.tail (Nat.ne_of_gt l5.1) (Upd.head hall2)) ?_ (by rw [List.size_toArray, List.length_map, sizeLine]; omega)
      rw [refs_push]
      intro h11 F11 N11
      ktr_unf
      rename Fr _ _ _ _ => F12
      rename News _ _ _ _ => N12
      exact ij_end F12 N12 (by kst_all) (.tail _ (.tail _ (List.mem_append_left _ (hold _ hsg)))) hown2 l5 hc hfl hfr hes hnd hfs
    · rintro m2 nx2 h7 tk7 hsg2 ⟨fr, fs, es, nf, u2, rfl, rfl, hfl, hfr, hes, hnd, hfs⟩ F7 N7
      dsimp only [kstB, List.cons_append] at F7 N7 ⊢
      obtain ⟨f0, f1, f2, rfl⟩ : ∃ f0 f1 f2, fs = [f0, f1, f2] := by
        match fs, hfl with
        | [a, b, c], _ => exact ⟨a, b, c, rfl⟩
      obtain ⟨c0', hc0, hf0⟩ := hfs 0 f0 rfl
      obtain ⟨c1', hc1, hf1⟩ := hfs 1 f1 rfl
      obtain ⟨c2', hc2, hf2⟩ := hfs 2 f2 rfl
      have hc0 := Option.some.inj hc0; subst hc0
      have hc1 := Option.some.inj hc1; subst hc1
      have hc2 := Option.some.inj hc2; subst hc2
      have N8 := cb_drop (news := (hp, listOf (refs has).toArray n1) :: (tl, listOf (refs tas).toArray n2) :: (fr, listOf (refs [f0, f1, f2]).toArray nf) :: (es ++ (rest ++ own))) N7 (by
        refine List.forall_mem_cons.mpr ⟨.tail _ (List.mem_append_right _ (.tail _ (.head _))), List.forall_mem_cons.mpr ⟨.tail _ (List.mem_append_right _ (.head _)), List.forall_mem_cons.mpr ⟨.head _, fun p h => .tail _ ?_⟩⟩⟩
        rcases List.mem_append.mp h with h | h
        · exact List.mem_append_left _ h
        · exact List.mem_append_right _ (.tail _ (.tail _ h)))
      clear N7
      ktr_unf
      refine callWith_K (by assumption) (by k_is) ?_
      ktr_unf
      refine item_any (v := .ref f0) (by assumption) (by k_mem) (by omega) (by omega) rfl ?_ (by with_unfolding_all rfl)
      ktr_unf
      have hpfr : hp < fr := hfr _ (.tail _ (.head _))
      have tlfr : tl < fr := hfr _ (.head _)
      have hin : ∀ p ∈ rest, p.1 < fr := fun p h => hfr _ (.tail _ (.tail _ (List.mem_append_left _ h)))
      have hof : ∀ p ∈ own, p.1 < fr := fun p h => hfr _ (.tail _ (.tail _ (List.mem_append_right _ h)))
      have entFr : ∀ a e, EntIn es a e → fr < a := by
        rintro a e ⟨_, _, _, _, h⟩
        exact hes _ h
      have entRest : ∀ a e, EntIn rest a e → a < fr := by
        rintro a e ⟨_, _, _, _, h⟩
        exact hin _ h
      obtain ⟨hn01, hn02, hn12⟩ : f0 ≠ f1 ∧ f0 ≠ f2 ∧ f1 ≠ f2 := by
        simp only [List.nodup_cons, List.mem_cons, List.not_mem_nil, or_false, not_or] at hnd
        exact ⟨hnd.1.1, hnd.1.2, hnd.2.1⟩
      obtain ⟨D', hD'⟩ : ∃ D' : Addr → Ent, D' = fun a => if a = f0 then entW b esc (top ++ [c0]) else if a = f1 then entW b esc (top ++ [c1]) else if a = f2 then entW b esc (top ++ [c2]) else D a := ⟨_, rfl⟩
      have d0 : D' f0 = entW b esc (top ++ [c0]) := by rw [hD']; simp
      have d1 : D' f1 = entW b esc (top ++ [c1]) := by rw [hD']; simp [Ne.symm hn01]
      have d2 : D' f2 = entW b esc (top ++ [c2]) := by rw [hD']; simp [Ne.symm hn02, Ne.symm hn12]
      have dO : ∀ a, a < fr → D' a = D a := by
        intro a ha
        rw [hD']
        simp only
        rw [if_neg (Nat.ne_of_lt (Nat.lt_trans ha (entFr _ _ hf0))), if_neg (Nat.ne_of_lt (Nat.lt_trans ha (entFr _ _ hf1))), if_neg (Nat.ne_of_lt (Nat.lt_trans ha (entFr _ _ hf2)))]
      have eH : has.map D' = has.map D := List.map_congr_left fun a ha => dO a (entRest _ _ (hD1 a ha))
      have eT : tas.map D' = tas.map D := List.map_congr_left fun a ha => dO a (entRest _ _ (hD2 a ha))
      have g0 : EntIn es f0 (D' f0) := by rw [d0]; simpa [entW] using hf0
      have g1 : EntIn es f1 (D' f1) := by rw [d1]; simpa [entW] using hf1
      have g2 : EntIn es f2 (D' f2) := by rw [d2]; simpa [entW] using hf2
      have gH : ∀ a ∈ has, EntIn (es ++ rest) a (D' a) := fun a ha => by
        rw [dO a (entRest _ _ (hD1 a ha))]
        exact EntIn.sub (fun p h => List.mem_append_right _ h) (hD1 a ha)
      have sub1 : ∀ p ∈ es, p ∈ es ++ rest := fun p h => List.mem_append_left _ h
      have sub2 : ∀ p ∈ es ++ rest, p ∈ es ++ (rest ++ own) := fun p h => (List.mem_append.mp h).elim (List.mem_append_left _) (fun h => List.mem_append_right _ (List.mem_append_left _ h))
      have offHp : ∀ p ∈ es ++ (rest ++ own), p.1 ≠ hp := by
        intro p h
        rcases List.mem_append.mp h with h | h
        · exact Nat.ne_of_gt (Nat.lt_trans hpfr (hes p h))
        · rcases List.mem_append.mp h with h | h
          · exact ho1 p h
          · exact hown p h _ (.tail _ (.head _))
      have offTl : ∀ p ∈ es ++ (rest ++ own), p.1 ≠ tl := by
        intro p h
        rcases List.mem_append.mp h with h | h
        · exact Nat.ne_of_gt (Nat.lt_trans tlfr (hes p h))
        · rcases List.mem_append.mp h with h | h
          · exact ho2 p h
          · exact hown p h _ (.head _)
      refine heapreplace_c (D := D') (by assumption) (by assumption) (by assumption) (by assumption) (by assumption) rfl
        (List.forall_mem_cons.mpr ⟨Ne.symm hne, List.forall_mem_cons.mpr ⟨Nat.ne_of_gt hpfr, offHp⟩⟩)
        (fun a ha => EntIn.tail (EntIn.tail (EntIn.sub sub2 (gH a ha)))) (EntIn.tail (EntIn.tail (EntIn.sub sub2 (EntIn.sub sub1 g0)))) (by omega) (by omega) (by show dp + 1 + 3 < _; omega) (by show un + 3 + 40 < _; omega) ?_
      intro h12 tk12 F12 N12
      ktr_unf
      refine append_K (by assumption) N12 (Upd.tail hne (Upd.head (List.forall_mem_cons.mpr ⟨Nat.ne_of_gt tlfr, offTl⟩))) ?_ (by
        have hl2 : tas.length = i := by
          have := congrArg List.length hm2
          rw [List.length_map, List.length_map] at this
          rw [this]; exact (simG_length ..).2
        rw [List.size_toArray, List.length_map, sizeLine]; omega)
      rw [refs_push]
      intro h13 F13 N13
      clear N12
      ktr_unf
      refine callWith_K (by assumption) (by k_is) ?_
      ktr_unf
      refine item_any (v := .ref f1) (by assumption) (by k_mem) (by omega) (by omega) rfl ?_ (by with_unfolding_all rfl)
      ktr_unf
      have gU : ∀ a ∈ siftup (fun a b => entLt (D' a) (D' b)) (has.set 0 f0), EntIn (es ++ rest) a (D' a) := by
        intro a ha
        rcases List.mem_or_eq_of_mem_set (siftup_mem ha) with h | h
        · exact gH a h
        · exact h ▸ EntIn.sub sub1 g0
      refine heappush_c (D := D') (by assumption) (by assumption) (by assumption) (by assumption) (by assumption) rfl
        (List.forall_mem_cons.mpr ⟨Ne.symm hne, List.forall_mem_cons.mpr ⟨Nat.ne_of_gt hpfr, offHp⟩⟩)
        (fun a ha => EntIn.tail (EntIn.tail (EntIn.sub sub2 (gU a ha)))) (EntIn.tail (EntIn.tail (EntIn.sub sub2 (EntIn.sub sub1 g1)))) (by rw [siftup_length, List.length_set]; omega) (by show dp + 1 + 3 < _; omega) (by show un + 3 + 40 < _; omega) ?_
      intro h14 tk14 F14 N14
      clear N13
      ktr_unf
      refine callWith_K (by assumption) (by k_is) ?_
      ktr_unf
      refine item_any (v := .ref f2) (by assumption) (by k_mem) (by omega) (by omega) rfl ?_ (by with_unfolding_all rfl)
      ktr_unf
      have gV : ∀ a ∈ siftdown (fun a b => entLt (D' a) (D' b)) (siftup (fun a b => entLt (D' a) (D' b)) (has.set 0 f0) ++ [f1]) (siftup (fun a b => entLt (D' a) (D' b)) (has.set 0 f0)).length, EntIn (es ++ rest) a (D' a) := by
        intro a ha
        rcases List.mem_append.mp (siftdown_mem ha) with h | h
        · exact gU a h
        · exact (List.mem_singleton.mp h) ▸ EntIn.sub sub1 g1
      refine heappush_c (D := D') (by assumption) (by assumption) (by assumption) (by assumption) (by assumption) rfl
        (List.forall_mem_cons.mpr ⟨Ne.symm hne, List.forall_mem_cons.mpr ⟨Nat.ne_of_gt hpfr, offHp⟩⟩)
        (fun a ha => EntIn.tail (EntIn.tail (EntIn.sub sub2 (gV a ha)))) (EntIn.tail (EntIn.tail (EntIn.sub sub2 (EntIn.sub sub1 g2)))) (by rw [siftdown_length, List.length_append, siftup_length, List.length_set]; simp; omega) (by show dp + 1 + 3 < _; omega) (by show un + 3 + 40 < _; omega) ?_
      intro h15 tk15 F15 N15
      clear N14
      ktr_unf
      have hdat := turn_data (D := D') (hw := (simW b esc c0 c1 c2 i).1) (tw := (simW b esc c0 c1 c2 i).2) (En := entW b esc) (w0 := []) (w1 := []) (w2 := []) (k0 := fun u => u ++ [c0]) (k1 := fun u => u ++ [c1]) (k2 := fun u => u ++ [c2]) (eH.trans hm1) htop d0 d1 d2
      have gW : ∀ a ∈ siftdown (fun a b => entLt (D' a) (D' b)) (siftdown (fun a b => entLt (D' a) (D' b)) (siftup (fun a b => entLt (D' a) (D' b)) (has.set 0 f0) ++ [f1]) (siftup (fun a b => entLt (D' a) (D' b)) (has.set 0 f0)).length ++ [f2]) (siftdown (fun a b => entLt (D' a) (D' b)) (siftup (fun a b => entLt (D' a) (D' b)) (has.set 0 f0) ++ [f1]) (siftup (fun a b => entLt (D' a) (D' b)) (has.set 0 f0)).length).length, EntIn (es ++ rest) a (D' a) := by
        intro a ha
        rcases List.mem_append.mp (siftdown_mem ha) with h | h
        · exact gV a h
        · exact (List.mem_singleton.mp h) ▸ EntIn.sub sub1 g2
      generalize hH : siftdown (fun a b => entLt (D' a) (D' b)) (siftdown (fun a b => entLt (D' a) (D' b)) (siftup (fun a b => entLt (D' a) (D' b)) (has.set 0 f0) ++ [f1]) (siftup (fun a b => entLt (D' a) (D' b)) (has.set 0 f0)).length ++ [f2]) (siftdown (fun a b => entLt (D' a) (D' b)) (siftup (fun a b => entLt (D' a) (D' b)) (has.set 0 f0) ++ [f1]) (siftup (fun a b => entLt (D' a) (D' b)) (has.set 0 f0)).length).length = H' at N15 hdat gW
      refine ⟨_, _, _, _, (tl, listOf (refs (tas ++ [has[0]])).toArray (n2 + 1)) :: (hp, listOf (refs H').toArray (n1 + 1 + 1)) :: ((fr, listOf (refs [f0, f1, f2]).toArray nf) :: (es ++ rest)), rfl, F15, N15, ?_, ?_, ?_, hp, tl, H', tas ++ [has[0]], _, D', _, _, _, rfl, kstB_self (by kst_all), hne, ?_, ?_, ?_, ?_, ?_, ?_, ?_⟩
      · refine List.forall_mem_cons.mpr ⟨.tail _ (.head _), List.forall_mem_cons.mpr ⟨.head _, List.forall_mem_cons.mpr ⟨.tail _ (.tail _ (.head _)), fun p h => .tail _ (.tail _ (.tail _ (sub2 p h)))⟩⟩⟩
      · exact fun p h => .tail _ (.tail _ (.tail _ (List.mem_append_right _ (List.mem_append_right _ h))))
      · intro p h q hq
        rcases List.mem_cons.mp hq with rfl | hq
        · exact hown p h (tl, listOf (refs tas).toArray n2) (.head _)
        · rcases List.mem_cons.mp hq with rfl | hq
          · exact hown p h (hp, listOf (refs has).toArray n1) (.tail _ (.head _))
          · rcases List.mem_cons.mp hq with rfl | hq
            · exact Nat.ne_of_lt (hof p h)
            · rcases List.mem_append.mp hq with hq | hq
              · exact Nat.ne_of_lt (Nat.lt_trans (hof p h) (hes q hq))
              · exact hown p h q (.tail _ (.tail _ hq))
      · exact List.forall_mem_cons.mpr ⟨Nat.ne_of_gt hpfr, fun p h => offHp p (sub2 p h)⟩
      · exact List.forall_mem_cons.mpr ⟨Nat.ne_of_gt tlfr, fun p h => offTl p (sub2 p h)⟩
      · exact fun a ha => EntIn.tail (gW a ha)
      · intro a ha
        rcases List.mem_append.mp ha with h | h
        · rw [dO a (entRest _ _ (hD2 a h))]
          exact EntIn.tail (EntIn.sub (fun p h => List.mem_append_right _ h) (hD2 a h))
        · rw [List.mem_singleton.mp h]
          exact EntIn.tail (gH _ (List.getElem_mem _))
      · exact fun p h => .tail _ (List.mem_append_right _ (hold p h))
      · exact hdat
      · rw [List.map_append, eT, hm2]
        show _ = (stepG _ _ _ _ (simW b esc c0 c1 c2 i)).2.map _
        unfold stepG
        rw [htop]
        simp only [List.map_append, List.map_cons, List.map_nil]
        rw [dO _ (entRest _ _ (hD1 _ (List.getElem_mem _))), eTop]
  · rintro m1 nx h4 tk4 ⟨hp, tl, has, tas, rest, D, n1, n2, u, rfl, rfl, hne, ho1, ho2, hD1, hD2, hold, hm1, hm2⟩ F4 N4
    dsimp only [kstB] at F4 N4 ⊢
    ktr_unf
    rename Fr h₀ _ _ _ => kF
    rename News h₀ _ _ _ => kN
    exact ret _ _ tl tas n2 _ D kF kN (fun p h => .tail _ (hold p h)) (fun a ha => EntIn.tail (hD2 a ha)) hm2
end Mine
end

-- C1
section
open PySem PySem.W PyProof.Rows
namespace Mine
set_option linter.unusedVariables false
set_option linter.unusedSimpArgs false
set_option maxRecDepth 100000
set_option maxHeartbeats 8000000

/-- the table of counts, as far as it has come -/
def cnt (zs : List Nat) : Nat → List Int
  | 0 => [1]
  | n + 1 => cnt zs n ++ [(zs.map fun z => if z ≤ n + 1 then (cnt zs n).getD (n + 1 - z) 0 else 0).sum]
theorem cnt_length (zs : List Nat) : ∀ n, (cnt zs n).length = n + 1
  | 0 => rfl
  | n + 1 => by simp [cnt, cnt_length zs n]

local macro_rules | `(tactic| ktr_unf) => `(tactic| repeat' (
  (fail_if_success (with_reducible show wpAny _ _ (exec (Stmt.For _ _ _ _ _) _) _ _ _));
  (fail_if_success (with_reducible show wpAny _ _ (exec (Stmt.While _ _ _ _) _) _ _ _));
  (fail_if_success (with_reducible show wpAny _ _ (pyIter (Value.ref _)) _ _ _));
  (fail_if_success (with_reducible show wpAny _ _ (eval (Expr.ListComp _ _ _ _) _) _ _ _));
  (fail_if_success (with_reducible show wpAny _ _ (call (Value.builtin "list.append") _ _) _ _ _));
  (fail_if_success (with_reducible show wpAny _ _ (call (Value.builtin "sum") _ _) _ _ _));
  (fail_if_success (with_reducible show wpAny _ _ (callWith _ (Value.ref _) _ _ _) _ _ _));
  (fail_if_success (with_reducible show wpAny _ _ (subscriptTail _ _ (Value.ref _) (Value.int _ _)) _ _ _));
  (fail_if_success (with_reducible show wpAny _ _ (call (Value.ref _) _ _) _ _ _));
  (fail_if_success (with_reducible show TbEnd _ _ _ _ _ _));
  first | (k_unfold; (try dsimp only)) | walk1 | (dsimp only; walk1) | (leave1; walk_say "STEP leave1"; try dsimp only) | fail "no step"))

-- a def whose names lie in cells, entered
local macro_rules | `(tactic| ktn_open) => `(tactic| (refine' code_defC ?k1 ?k2 ?k3 ?k4 ?k5 ?kA ?kF ?kK ?k6 ?k7 ?k8 ?k9 ?kB ?kD ?_ ?c2 ?c3 ?c4; (case kA => exact rfl); (case kF => exact rfl); (case kK => assumption); (case k1 => k_asm); (case k2 => k_asm); (case k3 => k_asm); (case k4 => k_asm); (case k5 => k_asm); (case k6 => k_is); (case k7 => k_is); (case k8 => ktr_room); (case k9 => exact BindsTo.of_eq rfl); (case kB => exact rfl); (case kD => decide +kernel); (case c2 => exact rfl); (case c3 => exact rfl); (case c4 => exact rfl); k_whole; intro g' L' h' tk' cells' FG' F' N' Y' B' X' T' l1; (try k_lt l1); k_cells Y'; (try simp only [List.cons_append, List.nil_append] at N'); (try dsimp only); (try k_fold)))

def CJ (sz ct cc : Addr) (oc : Obj) (news : List (Addr × Obj)) (zs : List Nat) (i : Nat) (m : Str → Option Value) (nx : List (Addr × Obj)) : Prop :=
  ∃ (vs : List Value) (n : Nat) (u : Str → Option Value),
    nx = (ct, listOf vs.toArray n) :: (cc, oc) :: news ∧ m = kstB u [(Str.ofString "sizes", .ref sz)] ∧ IntsAre vs (cnt zs i)

theorem counts_c {w : World} {mean : ExcName → Option Value} {mg mb : Str → Option Value} {dp un : Nat} {gd : Option (List Code)} {cn : Str} {cs : Scope} {a : Addr} {ccd : Value} {cl : List (Str × Addr)} {outer : List Env} {A₀ : Around} {base h₀ : Heap} {L : Addr} {m : Str → Option Value} {s : Shared} {Q E : Value → Shared → Prop}
   {news : List (Addr × Obj)} {sz : Addr} {z0 z1 z2 : Nat} {s0 s1 s2 : Tok} {ns : Nat}
   (B : Below A₀ base outer h₀) (F : Fr h₀ L s.heap m) (X : (hd.heap_39 w.params).In h₀) (N : News h₀ L s.heap news)
   (T : Top hd.view_39 (looseW hd.view_39 []) mean mg mb h₀) (hk : cs.kind = .function)
   (hsz : (sz, listOf [.int (z0 : Nat) s0, .int (z1 : Nat) s1, .int (z2 : Nat) s2].toArray ns) ∈ news)
   (hz0 : 1 ≤ z0 ∧ z0 ≤ 6) (hz1 : 1 ≤ z1 ∧ z1 ≤ 6) (hz2 : 1 ≤ z2 ∧ z2 ≤ 6) (hdp : dp + 6 < recursionLimit) (hun : un + 60 < cLine)
   (ret : ∀ h' tk' (ct : Addr) (vs : List Value) (n : Nat), Fr h₀ L h' m → News h₀ L h' ((ct, listOf vs.toArray n) :: news) → IntsAre vs (cnt [z0, z1, z2] 12) → (∀ p ∈ news, p.1 < ct) → Q (.ref ct) { s with heap := h', toks := tk' }) :
   wpAny (model Challenge.rw_mr0207_01.row.prog w) (ktrTop dp un gd cn cs L a ccd cl outer) (call (.ref 117) [.ref sz]) Q E s := by
  refine wpAny_call ?_
  k_dflt ktn_open
  ktr_unf
  rename_i gg LL hh tk0 FG BB XX TT lL o1 o2 d1 d2 l3 h3 F3 N3 l4
  have ne1 : LL + 1 + 1 ≠ LL + 1 := Nat.succ_ne_self _
  refine storeX_C (c := LL + 1) F3 N3 rfl (UpdF.tail (Nat.ne_of_gt l4.2.1) (UpdF.tail ne1 (UpdF.head (fun p hp => Nat.ne_of_lt (Nat.lt_succ_of_lt (lL p hp)))))) d2 ?_
  intro h4 o3 F4 N4 d3
  ktr_unf
  refine wpAny_For ?_ (by intro _; rfl)
  ktr_unf
  rename IsRange _ _ _ _ _ _ _ _ => hR
  rename Fr _ _ _ _ => F5
  rename News _ _ _ _ => N5
  have N6 := cb_drop (news := (LL + 1 + 1, o1) :: (l3, listOf [.int 1 tk0].toArray 0) :: (LL + 1, o3) :: news) N5 (by
    refine List.forall_mem_cons.mpr ⟨.tail _ (.head _), List.forall_mem_cons.mpr ⟨.head _, List.forall_mem_cons.mpr ⟨.tail _ (.tail _ (.head _)), fun p h => .tail _ (.tail _ (.tail _ h))⟩⟩⟩)
  clear N5
  refine lp_rangeC (c := LL + 1 + 1) (CJ sz l3 (LL + 1) o3 news [z0, z1, z2]) rfl hR (by decide +kernel) (n := 12) (by decide +kernel) F5 N6 d1 ?_ ?_ rfl rfl rfl ?_ ?_ (by with_unfolding_all passes_own)
  · refine List.forall_mem_cons.mpr ⟨Nat.ne_of_gt l4.1, List.forall_mem_cons.mpr ⟨Ne.symm ne1, fun p h => Nat.ne_of_lt (Nat.lt_succ_of_lt (Nat.lt_succ_of_lt (lL p h)))⟩⟩
  · exact ⟨[.int 1 tk0], 0, _, rfl, kstB_self (by kst_all), .cons _ _ .nil⟩
  · rintro i t5 m1 nx h7 tk7 I oi oc7 hi hnc hnI hcI ⟨vs, n, u, rfl, rfl, hv⟩ d7 F7 N7
    dsimp only [kstB, List.cons_append] at F7 N7 ⊢
    ktr_unf
    rename Fr _ _ _ _ => F8
    rename News _ _ _ _ => N8
    refine LCt.ListComp_T (cl := [(Str.ofString "length", LL + 1 + 1), (Str.ofString "counts", LL + 1)]) F8 (by with_unfolding_all rfl) (by decide) rfl (by decide) rfl ?_ (by intro _; rfl)
    ktr_unf
    refine LCt.CompSrcT.ledger rfl F8 N8 (k := ns) (its := [.int (z0 : Nat) s0, .int (z1 : Nat) s1, .int (z2 : Nat) s2].toArray) ?_ (by show 3 ≤ 2 ^ 24; omega) ?_
    · exact .tail _ (.tail _ (.tail _ (List.mem_append_left _ hsz)))
    · intro g9
      refine compT_fold (n := 3) (fun j ys nw => nw = (LL + 1 + 1, oc7) :: (l3, listOf vs.toArray n) :: (LL + 1, o3) :: (news ++ [(I, oi)]) ∧ ∃ is, IntsAre ys is ∧ is.sum = ((([z0, z1, z2].take j).map fun z => if z ≤ i + 1 then (cnt [z0, z1, z2] i).getD (i + 1 - z) 0 else 0).sum)) ?_ ?_ _ _ _ _ rfl ⟨rfl, [], .nil, rfl⟩
      · rintro ys nw ⟨rfl, is, hys, hsum⟩ D3 h12 tk12 F12 N12 off12
        dsimp only
        ktr_unf
        refine LSm.sum_ints F12 N12 rfl (PySem.IsL.isList (n := ys.length) (N12 _ (.head _)).1) hys ?_
        intro h13 tk13 t13 F13 N13
        ktr_unf
        have hl3 : l3 ≠ LL + 1 + 1 := hnc _ (.head _)
        have hcc : LL + 1 ≠ l3 := Nat.ne_of_lt l4.2.1
        have hnl : ∀ p ∈ news, p.1 ≠ l3 := fun p h => Nat.ne_of_lt (ktn_ltOf l4.2.2 p h)
        have hIl : I ≠ l3 := Ne.symm (hnI _ (.head _))
        have hall : ∀ p ∈ (LL + 1, o3) :: (news ++ [(I, oi)]), p.1 ≠ l3 := by
          refine List.forall_mem_cons.mpr ⟨hcc, fun p h => ?_⟩
          rcases List.mem_append.mp h with h | h
          · exact hnl p h
          · rw [List.mem_singleton.mp h]; exact hIl
        have hD3 : D3 ≠ l3 := Ne.symm off12.2.1
        refine append_K F13 N13 (Upd.tail hD3 (Upd.tail (Ne.symm hl3) (Upd.head hall))) ?_ (by
          have := hv.length
          rw [cnt_length] at this
          rw [List.size_toArray, sizeLine]; omega)
        intro h14 F14 N14
        ktr_unf
        rw [List.push_toArray] at N14
        refine ⟨_, _, _, _, (l3, listOf (vs ++ [Value.int is.sum t13]).toArray (n + 1)) :: (LL + 1, o3) :: news, oc7, _, rfl, F14, N14, .tail _ (.head _), d7, .tail _ (.tail _ (.tail _ (.tail _ (List.mem_append_right _ (.head _))))), ?_, ?_, ?_, vs ++ [Value.int is.sum t13], n + 1, u, rfl, rfl, ?_⟩
        · exact List.forall_mem_cons.mpr ⟨.tail _ (.tail _ (.head _)), List.forall_mem_cons.mpr ⟨.tail _ (.tail _ (.tail _ (.head _))), fun p h => .tail _ (.tail _ (.tail _ (.tail _ (List.mem_append_left _ h))))⟩⟩
        · exact List.forall_mem_cons.mpr ⟨hl3, fun p h => hnc p (.tail _ h)⟩
        · exact List.forall_mem_cons.mpr ⟨Ne.symm hIl, fun p h => hnI p (.tail _ h)⟩
        · rw [hsum]
          exact IntsAre.append hv (.cons _ _ .nil)
      · rintro j ys nw hj ⟨rfl, is, hys, hsum⟩ v I2 oI2 C oC D2 m2 h10 tk10 E' hP hoC hm2 F10 N10 off hne
        obtain ⟨z, tz, rfl, hz, hzb⟩ : ∃ (z : Nat) (tz : Tok), v = .int (z : Nat) tz ∧ [z0, z1, z2][j]? = some z ∧ 1 ≤ z ∧ z ≤ 6 := by
          match j, hP with
          | 0, h => exact ⟨z0, _, (Option.some.inj h).symm, rfl, hz0⟩
          | 1, h => exact ⟨z1, _, (Option.some.inj h).symm, rfl, hz1⟩
          | 2, h => exact ⟨z2, _, (Option.some.inj h).symm, rfl, hz2⟩
          | n + 3, h => omega
        dsimp only
        ktr_unf
        · rename ((z : Int) ≤ 1 + (i : Int)) => hle
          dsimp only
          refine ksa_sub (n := n) N10 (.tail _ (.tail _ (.tail _ (.tail _ (.head _))))) hv (by omega) (by rw [cnt_length]; omega) (by omega) (fun t11 => ?_) (by with_unfolding_all rfl)
          refine LCg.CompEnd.intro F10 N10 _ (fun p h => h) off (.inr ⟨_, .tail _ (.tail _ (.tail _ (List.mem_append_left _ hsz))), rfl, _, rfl⟩) ⟨rfl, is ++ [_], IntsAre.append hys (.cons _ _ .nil), ?_⟩
          have e : (1 + (i : Int) - (z : Int)).toNat = i + 1 - z := by omega
          rw [List.sum_append, hsum, List.take_add_one, hz, List.map_append, List.sum_append, e]
          simp only [Option.toList_some, List.map_cons, List.map_nil, List.sum_cons, List.sum_nil]
          rw [if_pos (by omega)]
        · rename (¬ (z : Int) ≤ 1 + (i : Int)) => hle
          refine LCg.CompEnd.intro F10 N10 _ (fun p h => h) off (.inr ⟨_, .tail _ (.tail _ (.tail _ (List.mem_append_left _ hsz))), rfl, _, rfl⟩) ⟨rfl, is, hys, ?_⟩
          rw [hsum, List.take_add_one, hz, List.map_append, List.sum_append]
          simp only [Option.toList_some, List.map_cons, List.map_nil, List.sum_cons, List.sum_nil]
          rw [if_neg (by omega)]
          simp
  · rintro m1 nx h7 tk7 oc7 ⟨vs, n, u, rfl, rfl, hv⟩ F7 N7
    dsimp only [kstB] at F7 N7 ⊢
    ktr_unf
    rename Fr h₀ _ _ _ => kF
    rename News h₀ _ _ _ => kN
    exact ret _ _ l3 vs n kF (cb_drop kN (List.forall_mem_cons.mpr ⟨.tail _ (.head _), fun p h => .tail _ (.tail _ (.tail _ h))⟩)) hv (ktn_ltOf l4.2.2)
end Mine
end

-- D1
section
open PySem PySem.W PyProof.Rows
namespace Mine
set_option linter.unusedVariables false
set_option linter.unusedSimpArgs false
set_option maxRecDepth 100000
set_option maxHeartbeats 8000000

def led1 (C : List Int) : Nat → Int → Nat → Option (Int × Nat)
  | 0, _, _ => none
  | f + 1, p, n => if n < C.length then (if C.getD n 0 ≤ p then led1 C f (p - C.getD n 0) (n + 1) else some (p, n)) else none
def pickP (C : List Int) (left : Nat) : List (Nat × List Nat) → Int → Option (Nat × List Nat × Int)
  | [], _ => none
  | (c, img) :: r, p => if p < (if img.length ≤ left then C.getD (left - img.length) 0 else 0) then some (c, img, p) else pickP C left r (p - (if img.length ≤ left then C.getD (left - img.length) 0 else 0))
def led2 (C : List Int) (prs : List (Nat × List Nat)) : Nat → Nat → Int → List Nat → List Nat → Option (List Nat × List Nat)
  | 0, left, _, t, wr => if left = 0 then some (t, wr) else none
  | f + 1, left, p, t, wr => if left = 0 then some (t, wr) else
    match pickP C left prs p with
    | none => none
    | some (c, img, p') => if img.length ≤ left then led2 C prs f (left - img.length) p' (t ++ [c]) (wr ++ img) else none
def ledP (C : List Int) (prs : List (Nat × List Nat)) (place : Int) : Option (List Nat × List Nat) :=
  match led1 C 13 place 0 with
  | some (p, n) => led2 C prs 13 n p [] []
  | none => none

local macro_rules | `(tactic| ktr_unf) => `(tactic| repeat' (
  (fail_if_success (with_reducible show wpAny _ _ (exec (Stmt.For _ _ _ _ _) _) _ _ _));
  (fail_if_success (with_reducible show wpAny _ _ (exec (Stmt.While _ _ _ _) _) _ _ _));
  (fail_if_success (with_reducible show wpAny _ _ (pyIter (Value.ref _)) _ _ _));
  (fail_if_success (with_reducible show wpAny _ _ (inplaceOp Operator.Add (Value.str _ _) (Value.str _ _)) _ _ _));
  (fail_if_success (with_reducible show wpAny _ _ (call (Value.builtin "len") _ _) _ _ _));
  (fail_if_success (with_reducible show wpAny _ _ (subscriptTail _ _ (Value.ref _) (Value.int _ _)) _ _ _));
  (fail_if_success (with_reducible show wpAny _ _ (call (Value.ref _) _ _) _ _ _));
  (fail_if_success (with_reducible show KswEnd _ _ _ _ _ _ _ _ _ _ _ _));
  (fail_if_success (with_reducible show PPost _ _ _ _ _ _ _ _));
  (fail_if_success (with_reducible show PEnd _ _ _ _ _ _));
  first | (k_unfold; (try dsimp only)) | walk1 | (dsimp only; walk1) | (leave1; walk_say "STEP leave1"; try dsimp only) | fail "no step"))

theorem iadd_S {prog : Program} {w : World} {A : Around} {E : Value → Shared → Prop} {s : Shared} {l k : List Nat} {t u : Tok} {Q : Value → Shared → Prop} (hz : l.length + k.length < 1000000)
    (h : ∀ t' tk, Q (.str (S (l ++ k)) t') { s with toks := tk }) : wpAny (model prog w) A (inplaceOp .Add (.str (S l) t) (.str (S k) u)) Q E s := by
  have e : S l ++ S k = S (l ++ k) := by
    show (⟨l.toArray ++ k.toArray⟩ : Str) = ⟨(l ++ k).toArray⟩
    simp
  have eL : (S l).length = l.length := by show l.toArray.size = _; rw [List.size_toArray]
  have eK : (S k).length = k.length := by show k.toArray.size = _; rw [List.size_toArray]
  refine PyProof.Rows.iadd_str (fun t' tk => ?_) (by rw [eL, eK, sizeLine]; omega)
  rw [e]
  exact h t' tk

theorem led_c {w : World} {mean : ExcName → Option Value} {mg mb : Str → Option Value} {dp un : Nat} {gd : Option (List Code)} {cn : Str} {cs : Scope} {a : Addr} {ccd : Value} {cl : List (Str × Addr)} {outer : List Env} {A₀ : Around} {base h₀ : Heap} {L : Addr} {m : Str → Option Value} {s : Shared} {Q E : Value → Shared → Prop}
   {news : List (Addr × Obj)} {pr ct : Addr} {ts : List Addr} {np nc : Nat} {vs : List Value} {C : List Int} {prs : List (Nat × List Nat)} {place : Int} {tp : Tok} {res : List Nat × List Nat}
   (B : Below A₀ base outer h₀) (F : Fr h₀ L s.heap m) (X : (hd.heap_39 w.params).In h₀) (N : News h₀ L s.heap news)
   (T : Top hd.view_39 (looseW hd.view_39 []) mean mg mb h₀) (hk : cs.kind = .function)
   (hpr : (pr, listOf (refs ts).toArray np) ∈ news) (hts : ts.length = prs.length)
   (htp : ∀ (j : Nat) (t : Addr), ts[j]? = some t → ∃ c img t1 t2 nt, prs[j]? = some (c, img) ∧ (t, pairObj (.str (S [c]) t1) (.str (S img) t2) nt) ∈ news)
   (himgs : ∀ (j c : Nat) (img : List Nat), prs[j]? = some (c, img) → img.length ≤ 6) (hct : (ct, listOf vs.toArray nc) ∈ news) (hC : IntsAre vs C) (hCl : C.length = 13)
   (hled : ledP C prs place = some res) (hdp : dp + 6 < recursionLimit) (hun : un + 60 < cLine)
   (ret : ∀ h' tk' (tu : Addr) t1 t2 n, Fr h₀ L h' m → News h₀ L h' ((tu, pairObj (.str (S res.1) t1) (.str (S res.2) t2) n) :: news) → Q (.ref tu) { s with heap := h', toks := tk' }) :
   wpAny (model Challenge.rw_mr0207_01.row.prog w) (ktrTop dp un gd cn cs L a ccd cl outer) (call (.ref 124) [.int place tp, .ref pr, .ref ct]) Q E s := by
  refine wpAny_call ?_
  k_dflt ktr_enter
  ktr_unf
  rename Fr _ _ _ _ => F1
  rename News _ _ _ _ => N1
  obtain ⟨p1, n1, hl1⟩ : ∃ p1 n1, led1 C 13 place 0 = some (p1, n1) := by
    unfold ledP at hled
    split at hled
    · exact ⟨_, _, by assumption⟩
    · cases hled
  refine' ksw_while (σ := Nat × Int × Nat × Tok × Tok) (fun _ => news) (fun c => [(Str.ofString "place", .int c.2.1 c.2.2.2.1), (Str.ofString "length", .int (c.2.2.1 : Nat) c.2.2.2.2)]) (fun _ => True) []
    (fun c => led1 C c.1 c.2.1 c.2.2.1 = some (p1, n1)) (fun c => c.1) (13, place, 0, tp, ?ta1) F1 N1 trivial ?kk ?kp ?kt ?ke
  case kk => kst_all
  case kp => exact hl1
  case ke => with_unfolding_all passes_own
  case kt =>
    rintro ⟨f, p, n, t', t''⟩ u h tk - hP F2 N2
    dsimp only [kstB] at F2 N2 hP ⊢
    ktr_unf
    obtain ⟨f, rfl⟩ : ∃ g, f = g + 1 := by
      cases f with
      | zero => simp [led1] at hP
      | succ g => exact ⟨g, rfl⟩
    have hn : n < C.length := by
      unfold led1 at hP
      split at hP
      · assumption
      · cases hP
    unfold led1 at hP
    rw [if_pos hn] at hP
    refine ksa_sub (n := nc) N2 hct hC (by omega) (by omega) (by omega) (fun t3 => ?_) (by with_unfolding_all rfl)
    rw [Int.toNat_natCast]
    ktr_unf
    · rename (C.getD n 0 ≤ p) => hle
      rw [if_pos hle] at hP
      refine ksa_sub (n := nc) (by assumption) hct hC (by omega) (by omega) (by omega) (fun t4 => ?_) (by with_unfolding_all rfl)
      rw [Int.toNat_natCast]
      ktr_unf
      rename Fr _ _ _ _ => F10
      rename News _ _ _ _ => N10
      have e1 : (n : Int) + 1 = ((n + 1 : Nat) : Int) := by omega
      rw [e1] at F10
      refine' ksw_end (f, p - C.getD n 0, n + 1, ?tkA, ?tkB) F10 N10 (fun p h => h) trivial ?ka ?kb ?kc ?kd
      case ka => kst_all
      case kb => ksw_same
      case kc => exact hP
      case kd => dsimp only; omega
    · rename (¬ C.getD n 0 ≤ p) => hle
      rw [if_neg hle] at hP
      obtain ⟨rfl, rfl⟩ : p = p1 ∧ n = n1 := by
        have := Option.some.inj hP
        exact ⟨congrArg Prod.fst this, congrArg Prod.snd this⟩
      have hled2 : led2 C prs 13 n p [] [] = some res := by
        unfold ledP at hled
        rw [hl1] at hled
        exact hled
      ktr_unf
      rename Fr _ _ _ _ => F4
      rename News _ _ _ _ => N4
      refine' ksw_while (σ := Nat × Nat × Int × List Nat × List Nat × Tok × Tok × Tok × Tok) (fun _ => news) (fun c => [(Str.ofString "left", .int (c.2.1 : Nat) c.2.2.2.2.2.1), (Str.ofString "place", .int c.2.2.1 c.2.2.2.2.2.2.1), (Str.ofString "text", .str (S c.2.2.2.1) c.2.2.2.2.2.2.2.1), (Str.ofString "written", .str (S c.2.2.2.2.1) c.2.2.2.2.2.2.2.2)]) (fun _ => True) [Str.ofString "sign", Str.ofString "image", Str.ofString "fitting"]
        (fun c => led2 C prs c.1 c.2.1 c.2.2.1 c.2.2.2.1 c.2.2.2.2.1 = some res ∧ c.2.1 ≤ 12 ∧ c.2.2.2.1.length + c.1 ≤ 13 ∧ c.2.2.2.2.1.length + c.2.1 ≤ 12) (fun c => c.1) (13, n, p, [], [], ?tb1, ?tb2, ?tb3, ?tb4) F4 N4 trivial ?kk2 ?kp2 ?kt2 ?ke2
      case kk2 => kst_all
      case kp2 => exact ⟨hled2, by dsimp only; omega, by simp, by dsimp only; simp; omega⟩
      case ke2 => with_unfolding_all passes_own
      case kt2 =>
        rintro ⟨f2, left, p2, tx, wr, k1, k2, k3, k4⟩ u2 h5 tk5 - ⟨hL2, hle2, htx, hwr⟩ F5 N5
        dsimp only [kstB] at F5 N5 hL2 hle2 htx hwr ⊢
        ktr_unf
        · rename (0 < (left : Int)) => hpos
          obtain ⟨f2, rfl⟩ : ∃ g, f2 = g + 1 := by
            cases f2 with
            | zero => unfold led2 at hL2; rw [if_neg (by omega)] at hL2; cases hL2
            | succ g => exact ⟨g, rfl⟩
          unfold led2 at hL2
          rw [if_neg (by omega)] at hL2
          obtain ⟨cP, imgP, pP, hpick⟩ : ∃ c img p', pickP C left prs p2 = some (c, img, p') := by
            split at hL2
            · cases hL2
            · exact ⟨_, _, _, by assumption⟩
          rw [hpick] at hL2
          dsimp only at hL2
          have himg : imgP.length ≤ left := by
            split at hL2
            · assumption
            · cases hL2
          rw [if_pos himg] at hL2
          refine wpAny_For ?_ (by intro _; rfl)
          ktr_unf
          rename Fr _ _ _ _ => F6
          rename News _ _ _ _ => N6
          refine lp_pairsK (σ := Int × Tok) (vs := refs ts) (nn := np) (fun c => [(Str.ofString "place", .int c.1 c.2)]) [Str.ofString "sign", Str.ofString "image", Str.ofString "fitting"] (fun j c => pickP C left (prs.drop j) c.1 = some (cP, imgP, pP)) (p2, k2)
            rfl hpr F6 N6 rfl rfl rfl ?_ ?_ ?_ ?_ ?_ (by with_unfolding_all passes_own)
          · intro j v hv
            rw [List.getElem?_map] at hv
            cases ht : ts[j]? with
            | none => rw [ht] at hv; cases hv
            | some t =>
              rw [ht] at hv
              obtain ⟨c, img, t1, t2, nt, _, hm⟩ := htp j t ht
              exact ⟨t, nt, _, _, (Option.some.inj hv).symm, hm⟩
          · kst_all
          · simpa using hpick
          · rintro ⟨p3, k5⟩ j t nt v1 v2 u3 h7 tk7 own hj hmt hpk F7 N7
            dsimp only at hpk
            have ht : ts[j]? = some t := by
              rw [List.getElem?_map] at hj
              cases ht : ts[j]? with
              | none => rw [ht] at hj; cases hj
              | some t' => rw [ht] at hj; cases Option.some.inj hj; rfl
            obtain ⟨c, img, t1, t2, nt', hpj, hm'⟩ := htp j t ht
            have hobj := (N7 _ (List.mem_append_left _ hmt)).1.symm.trans (N7 _ (List.mem_append_left _ hm')).1
            have hvv : v1 = .str (S [c]) t1 ∧ v2 = .str (S img) t2 := by
              have := Option.some.inj hobj
              simp only [Obj.mk.injEq, Data.seq.injEq] at this
              have h2 := this.2.2.1.1
              simp at h2
              exact h2
            obtain ⟨rfl, rfl⟩ := hvv
            have hdrop : prs.drop j = (c, img) :: prs.drop (j + 1) := by
              have hlt := (List.getElem?_eq_some_iff.mp hpj).1
              rw [List.drop_eq_getElem_cons hlt]
              congr 1
              exact (List.getElem?_eq_some_iff.mp hpj).2
            rw [hdrop] at hpk
            unfold pickP at hpk
            dsimp only [kstB] at F7
            have him6 := himgs j c img hpj
            ktr_unf
            refine len_S (by omega) ?_
            ktr_unf
            · rename ((img.length : Int) ≤ (left : Int)) => hfit
              refine len_S (by omega) ?_
              ktr_unf
              refine ksa_sub (n := nc) (by assumption) (List.mem_append_left _ hct) hC (by omega) (by omega) (by omega) (fun t8 => ?_) (by with_unfolding_all rfl)
              have e8 : ((left : Int) - (img.length : Int)).toNat = left - img.length := by omega
              rw [e8]
              have hfit' : img.length ≤ left := by omega
              simp only [if_pos hfit'] at hpk
              ktr_unf
              · rename (p3 < _) => hlt
                rw [if_pos hlt] at hpk
                have hpk' := Option.some.inj hpk
                simp only [Prod.mk.injEq] at hpk'
                obtain ⟨rfl, rfl, rfl⟩ := hpk'
                dsimp only [PPost]
                ktr_unf
                refine iadd_S (by simp; omega) ?_
                intro t9 tk9
                ktr_unf
                refine iadd_S (by omega) ?_
                intro t10 tk10
                ktr_unf
                refine len_S (by omega) ?_
                ktr_unf
                rename Fr _ _ _ _ => F9
                rename News _ _ _ _ => N9
                have e9 : (left : Int) - (img.length : Int) = ((left - img.length : Nat) : Int) := by omega
                rw [e9] at F9
                refine' ksw_end (f2, left - img.length, p3, tx ++ [c], wr ++ img, ?tc1, ?tc2, ?tc3, ?tc4) F9 N9 (fun p h => List.mem_append_left _ h) trivial ?ka2 ?kb2 ?kc2 ?kd2
                case ka2 => kst_all
                case kb2 => ksw_same
                case kc2 => exact ⟨hL2, by dsimp only; omega, by simp; omega, by simp; omega⟩
                case kd2 => dsimp only; omega
              · rename (¬ p3 < _) => hlt
                rw [if_neg hlt] at hpk
                rename Fr _ _ _ _ => F9
                rename News _ _ _ _ => N9
                refine' ⟨_, _, _, rfl, F9, N9, (_, ?td1), ?qa1, ?qb1, hpk⟩
                case qa1 => kst_all
                case qb1 => ksw_same
            · rename (¬ (img.length : Int) ≤ (left : Int)) => hfit
              have hfit' : ¬ img.length ≤ left := by omega
              simp only [if_neg hfit'] at hpk
              rename (p3 < 0) => hlt
              rw [if_pos hlt] at hpk
              have hpk' := Option.some.inj hpk
              simp only [Prod.mk.injEq] at hpk'
              obtain ⟨rfl, rfl, rfl⟩ := hpk'
              exact absurd himg hfit'
            · rename (¬ (img.length : Int) ≤ (left : Int)) => hfit
              have hfit' : ¬ img.length ≤ left := by omega
              simp only [if_neg hfit'] at hpk
              rename (¬ p3 < 0) => hlt
              rw [if_neg hlt] at hpk
              rename Fr _ _ _ _ => F9
              rename News _ _ _ _ => N9
              refine' ⟨_, _, _, rfl, F9, N9, (_, ?td2), ?qa2, ?qb2, hpk⟩
              case qa2 => kst_all
              case qb2 => ksw_same
          · rintro ⟨p3, k5⟩ u3 h7 tk7 hpk F7 N7
            rw [List.length_map, hts, List.drop_length] at hpk
            cases hpk
        · rename (¬ 0 < (left : Int)) => hpos
          have h0 : left = 0 := by omega
          have hres : res = (tx, wr) := by
            subst h0
            cases f2 <;> (unfold led2 at hL2; rw [if_pos rfl] at hL2; exact (Option.some.inj hL2).symm)
          subst hres
          rename News h₀ _ _ _ => kN
          rename Fr h₀ _ _ _ => kF
          exact ret _ _ _ _ _ 0 kF kN
end Mine
end

-- E1
section
open PySem PySem.W PyProof.Rows
namespace Mine
set_option linter.unusedVariables false
set_option linter.unusedSimpArgs false
set_option maxRecDepth 100000
set_option maxHeartbeats 8000000

def pool : List Nat := [38, 60, 62, 34, 13, 10, 9, 97, 59, 39]
def signP (n : Nat) : Nat := if n % 2 = 0 then pool.getD (n / 2 % 10) 0 else if n / 2 < 55296 then n / 2 else n / 2 + 2048
theorem pool_str : Str.ofString "&<>\"\r\n\ta;'" = S pool := by decide +kernel
theorem item_S {prog : Program} {w : World} {A : Around} {E : Value → Shared → Prop} {s : Shared} {value slice : PySem.Expr} {l : List Nat} {i : Nat} {t u : Tok} {Q : Value → Shared → Prop} (hi : i < l.length) (hz : l.length < 1000000)
    (h : Q (.str (S [l.getD i 0]) s.toks) { s with toks := s.toks + 1 })
    (hs : subscripted slice false (.str (S l) t) (.int (i : Nat) u) = operate [.str (S l) t, .int (i : Nat) u] (getItem (.str (S l) t) (.int (i : Nat) u)) := by with_unfolding_all rfl) :
    wpAny (model prog w) A (subscriptTail value slice (.str (S l) t) (.int (i : Nat) u)) Q E s := by
  refine tail_any (typeIs_str s _ _) F.slot_str_getitem.lookup (PyProof.Rows.getItem_str (c := l.getD i 0) ?_ ?_ h) hs
  · have a1 : ¬ ((i : Nat) : Int) < -(2 ^ 63 : Int) := by omega
    have a2 : ¬ ((i : Nat) : Int) ≥ 2 ^ 63 := by omega
    rw [decide_eq_false a1, decide_eq_false a2]; rfl
  · have e : (S l).length = l.length := by show l.toArray.size = _; rw [List.size_toArray]
    rw [e]
    have e2 : seqIndex? ((i : Nat) : Int) l.length = some i := by
      simp only [seqIndex?]
      rw [if_neg (show ¬ ((i : Nat) : Int) < 0 by omega)]
      simp [hi]
    rw [e2]
    simp [S, hi]

local macro_rules | `(tactic| ktr_unf) => `(tactic| repeat' (
  (fail_if_success (with_reducible show wpAny _ _ (subscriptTail _ _ (Value.str _ _) (Value.int _ _)) _ _ _));
  (fail_if_success (with_reducible show wpAny _ _ (call (Value.builtin "chr") _ _) _ _ _));
  first | (k_unfold; (try dsimp only)) | walk1 | (dsimp only; walk1) | (leave1; walk_say "STEP leave1"; try dsimp only) | fail "no step"))

theorem sign_c {w : World} {mean : ExcName → Option Value} {mg mb : Str → Option Value} {dp un : Nat} {gd : Option (List Code)} {cn : Str} {cs : Scope} {a : Addr} {ccd : Value} {cl : List (Str × Addr)} {outer : List Env} {A₀ : Around} {base h₀ : Heap} {L : Addr} {m : Str → Option Value} {s : Shared} {Q E : Value → Shared → Prop}
   {news : List (Addr × Obj)} {n : Nat} {t : Tok}
   (B : Below A₀ base outer h₀) (F : Fr h₀ L s.heap m) (X : (hd.heap_39 w.params).In h₀) (N : News h₀ L s.heap news)
   (T : Top hd.view_39 (looseW hd.view_39 []) mean mg mb h₀) (hk : cs.kind = .function)
   (hn : n < 1000000) (hdp : dp + 3 < recursionLimit) (hun : un + 40 < cLine)
   (ret : ∀ h' tk' t', Fr h₀ L h' m → News h₀ L h' news → Q (.str (S [signP n]) t') { s with heap := h', toks := tk' }) :
   wpAny (model Challenge.rw_mr0207_01.row.prog w) (ktrTop dp un gd cn cs L a ccd cl outer) (call (.ref 105) [.int (n : Nat) t]) Q E s := by
  refine wpAny_call ?_
  k_dflt ktr_enter
  ktr_unf
  · rename ((n : Int).fmod 2 = 0) => h2
    have e1 : ((n : Int).fdiv 2).fmod 10 = ((n / 2 % 10 : Nat) : Int) := by
      rw [Int.fdiv_eq_ediv_of_nonneg _ (by omega), Int.fmod_eq_emod_of_nonneg _ (by omega)]; omega
    have e2 : n % 2 = 0 := by
      rw [Int.fmod_eq_emod_of_nonneg _ (by omega)] at h2; omega
    rw [e1, pool_str]
    refine item_S (by show _ < 10; omega) (by decide) ?_ (by with_unfolding_all rfl)
    ktr_unf
    have e3 : pool.getD (n / 2 % 10) 0 = signP n := by rw [signP, if_pos e2]
    rw [e3]
    exact ret _ _ _ (by assumption) (by assumption)
  · rename ((n : Int).fmod 2 ≠ 0) => h2
    rename ((n : Int).fdiv 2 < 55296) => h3
    rw [Int.fmod_eq_emod_of_nonneg _ (by omega)] at h2
    rw [Int.fdiv_eq_ediv_of_nonneg _ (by omega)] at h3
    rw [Int.fdiv_eq_ediv_of_nonneg _ (by omega)]
    refine chr_of_range (by omega) (by omega) ?_
    have e3 : (⟨#[((n : Int) / 2).toNat]⟩ : Str) = S [signP n] := by
      rw [signP, if_neg (by omega), if_pos (by omega)]
      have : ((n : Int) / 2).toNat = n / 2 := by omega
      rw [this]; rfl
    rw [e3]
    ktr_unf
    exact ret _ _ _ (by assumption) (by assumption)
  · rename ((n : Int).fmod 2 ≠ 0) => h2
    rename (¬ (n : Int).fdiv 2 < 55296) => h3
    rw [Int.fmod_eq_emod_of_nonneg _ (by omega)] at h2
    rw [Int.fdiv_eq_ediv_of_nonneg _ (by omega)] at h3
    rw [Int.fdiv_eq_ediv_of_nonneg _ (by omega)]
    refine chr_of_range (by omega) (by omega) ?_
    have e3 : (⟨#[((n : Int) / 2 + 2048).toNat]⟩ : Str) = S [signP n] := by
      rw [signP, if_neg (by omega), if_neg (by omega)]
      have : ((n : Int) / 2 + 2048).toNat = n / 2 + 2048 := by omega
      rw [this]; rfl
    rw [e3]
    ktr_unf
    exact ret _ _ _ (by assumption) (by assumption)
end Mine
end

-- E2
section
open PySem PySem.W PyProof.Rows
namespace Mine
set_option linter.unusedVariables false
set_option linter.unusedSimpArgs false
set_option maxRecDepth 100000
set_option maxHeartbeats 8000000

theorem seqIndex_nat {k len : Nat} (h : k < len) : seqIndex? ((k : Nat) : Int) len = some k := by
  simp only [seqIndex?]
  rw [if_neg (show ¬ ((k : Nat) : Int) < 0 by omega)]
  simp [h]
def CodesAre : List Value → List Nat → Prop
  | [], [] => True
  | v :: vs, c :: l => (∃ t, v = .str (S [c]) t) ∧ CodesAre vs l
  | _, _ => False
theorem CodesAre.length : ∀ {vs : List Value} {l : List Nat}, CodesAre vs l → vs.length = l.length
  | [], [], _ => rfl
  | v :: vs, c :: l, h => by rw [List.length_cons, List.length_cons, CodesAre.length h.2]
  | [], _ :: _, h => h.elim
  | _ :: _, [], h => h.elim
theorem CodesAre.snoc {c : Nat} {t : Tok} : ∀ {vs : List Value} {l : List Nat}, CodesAre vs l → CodesAre (vs ++ [.str (S [c]) t]) (l ++ [c])
  | [], [], _ => ⟨⟨t, rfl⟩, trivial⟩
  | v :: vs, c :: l, h => ⟨h.1, CodesAre.snoc h.2⟩
  | [], _ :: _, h => h.elim
  | _ :: _, [], h => h.elim
theorem CodesAre.cut : ∀ {vs : List Value} {l : List Nat} {k : Nat}, CodesAre vs l → k < l.length → ∃ p q t, kl_cut vs k = some (p, .str (S [l.getD k 0]) t, q) ∧ CodesAre (p ++ q) (l.eraseIdx k)
  | v :: vs, c :: l, 0, h, _ => by
    obtain ⟨t, rfl⟩ := h.1
    exact ⟨[], vs, t, rfl, h.2⟩
  | v :: vs, c :: l, k + 1, h, hk => by
    obtain ⟨p, q, t, e, hc⟩ := CodesAre.cut h.2 (k := k) (by simpa using hk)
    refine ⟨v :: p, q, t, ?_, h.1, hc⟩
    unfold kl_cut
    rw [e]
    rfl
  | [], [], _, _, hk => absurd hk (Nat.not_lt_zero _)
  | [], _ :: _, _, h, _ => h.elim
  | _ :: _, [], _, h, _ => h.elim
def sgStep (st : List Nat × List Nat × Nat) : List Nat × List Nat × Nat := (st.1.eraseIdx (st.2.2 % st.1.length), st.2.1 ++ [st.1.getD (st.2.2 % st.1.length) 0], st.2.2 / st.1.length)
def sgSt (n : Nat) : Nat → List Nat × List Nat × Nat
  | 0 => (pool, [], n)
  | i + 1 => sgStep (sgSt n i)
theorem sgSt_length (n : Nat) : ∀ i, i ≤ 3 → (sgSt n i).1.length = 10 - i
  | 0, _ => rfl
  | i + 1, h => by
    have ih := sgSt_length n i (by omega)
    unfold sgSt sgStep
    dsimp only
    rw [List.length_eraseIdx, ih, if_pos (Nat.mod_lt _ (by omega))]
    omega
theorem sgSt_le (n : Nat) : ∀ i, (sgSt n i).2.2 ≤ n
  | 0 => Nat.le_refl _
  | i + 1 => Nat.le_trans (Nat.div_le_self _ _) (sgSt_le n i)
theorem sgSt_out (n : Nat) : ∀ i, (sgSt n i).2.1.length = i
  | 0 => rfl
  | i + 1 => by unfold sgSt sgStep; simp [sgSt_out n i]
def signsP (n : Nat) : List Nat := (sgSt n 3).2.1

def SJ (D : Addr) (oD : Obj) (n : Nat) (news : List (Addr × Obj)) (i : Nat) (m : Str → Option Value) (nx : List (Addr × Obj)) : Prop :=
  ∃ (pl sg : Addr) (pv sv : List Value) (n1 n2 : Nat) (u : Str → Option Value) (k : Tok),
    nx = (D, oD) :: (sg, listOf sv.toArray n2) :: (pl, listOf pv.toArray n1) :: news ∧
    m = kstB u [(Str.ofString "pool", .ref pl), (Str.ofString "signs", .ref sg), (Str.ofString "number", .int ((sgSt n i).2.2 : Nat) k)] ∧
    CodesAre pv (sgSt n i).1 ∧ CodesAre sv (sgSt n i).2.1 ∧ pl < sg ∧ (∀ p ∈ news, p.1 < pl) ∧ sg < D

local macro_rules | `(tactic| ktr_unf) => `(tactic| repeat' (
  (fail_if_success (with_reducible show wpAny _ _ (exec (Stmt.For _ _ _ _ _) _) _ _ _));
  (fail_if_success (with_reducible show wpAny _ _ (pyIter (Value.ref _)) _ _ _));
  (fail_if_success (with_reducible show TbEnd _ _ _ _ _ _));
  (fail_if_success (with_reducible show wpAny _ _ (call (Value.builtin "list.pop") _ _) _ _ _));
  (fail_if_success (with_reducible show wpAny _ _ (call (Value.builtin "list.append") _ _) _ _ _));
  first | (k_unfold; (try dsimp only)) | (dsimp only; walk1) | walk1 | (leave1; walk_say "STEP leave1"; try dsimp only) | fail "no step"))

theorem signs_c {w : World} {mean : ExcName → Option Value} {mg mb : Str → Option Value} {dp un : Nat} {gd : Option (List Code)} {cn : Str} {cs : Scope} {a : Addr} {ccd : Value} {cl : List (Str × Addr)} {outer : List Env} {A₀ : Around} {base h₀ : Heap} {L : Addr} {m : Str → Option Value} {s : Shared} {Q E : Value → Shared → Prop}
   {news : List (Addr × Obj)} {n : Nat} {t : Tok}
   (B : Below A₀ base outer h₀) (F : Fr h₀ L s.heap m) (X : (hd.heap_39 w.params).In h₀) (N : News h₀ L s.heap news)
   (T : Top hd.view_39 (looseW hd.view_39 []) mean mg mb h₀) (hk : cs.kind = .function)
   (hn : n < 1000000) (hdp : dp + 3 < recursionLimit) (hun : un + 40 < cLine)
   (ret : ∀ h' tk' (sg : Addr) (sv : List Value) (n2 : Nat), Fr h₀ L h' m → News h₀ L h' ((sg, listOf sv.toArray n2) :: news) → CodesAre sv (signsP n) → (∀ p ∈ news, p.1 < sg) → Q (.ref sg) { s with heap := h', toks := tk' }) :
   wpAny (model Challenge.rw_mr0207_01.row.prog w) (ktrTop dp un gd cn cs L a ccd cl outer) (call (.ref 98) [.int (n : Nat) t]) Q E s := by
  refine wpAny_call ?_
  k_dflt ktr_enter
  ktr_unf
  rename Fr _ _ _ _ => F2
  refine For_invVF F2 rfl rfl ?_ (by intro _; rfl) (by with_unfolding_all passes_own)
  ktr_unf
  rename_i DD h3 F3 N3 l3
  obtain ⟨tk3, htk3⟩ : ∃ x, x = tk := ⟨_, rfl⟩
  subst htk3
  refine lp_tuple (vs := [.int 10 tk3, .int 9 (tk3 + 1), .int 8 (tk3 + 1 + 1)]) (nn := 0) (SJ DD (tupOf [.int 10 tk3, .int 9 (tk3 + 1), .int 8 (tk3 + 1 + 1)] 0) n news) rfl (.head _) F3 N3 ?_ ?_ ?_
  · rename _ ∧ AllLt _ _ => l2
    rename ∀ (p : Addr × Obj), p ∈ news → _ => l1
    refine ⟨_, _, _, _, 0, 0, _, _, rfl, kstB_self (by kst_all), ?_, trivial, l2.1, l1, l3.1⟩
    exact ⟨⟨_, rfl⟩, ⟨_, rfl⟩, ⟨_, rfl⟩, ⟨_, rfl⟩, ⟨_, rfl⟩, ⟨_, rfl⟩, ⟨_, rfl⟩, ⟨_, rfl⟩, ⟨_, rfl⟩, ⟨_, rfl⟩, trivial⟩
  · rintro i v m1 nx h5 tk5 own hv hown htup ⟨pl, sg, pv, sv, n1, n2, u, k, rfl, rfl, hpv, hsv, hlt1, hlt2, hlt3⟩ F5 N5
    dsimp only [kstB, List.cons_append] at F5 N5 ⊢
    obtain ⟨tz, rfl, hi⟩ : ∃ tz, v = .int ((10 - i : Nat) : Int) tz ∧ i < 3 := by
      match i, hv with
      | 0, h => exact ⟨_, (Option.some.inj h).symm, by omega⟩
      | 1, h => exact ⟨_, (Option.some.inj h).symm, by omega⟩
      | 2, h => exact ⟨_, (Option.some.inj h).symm, by omega⟩
      | n + 3, h => simp at h
    ktr_unf
    have hlen := sgSt_length n i (by omega)
    have hle := sgSt_le n i
    have e1 : (((sgSt n i).2.2 : Nat) : Int).fmod ((10 - i : Nat) : Int) = (((sgSt n i).2.2 % (sgSt n i).1.length : Nat) : Int) := by
      rw [Int.fmod_eq_emod_of_nonneg _ (by omega), hlen]; exact (Int.natCast_emod _ _).symm
    rw [e1]
    have hk : (sgSt n i).2.2 % (sgSt n i).1.length < (sgSt n i).1.length := Nat.mod_lt _ (by omega)
    have hpl := hpv.length
    obtain ⟨p, q, ty, hcut, hpq⟩ := hpv.cut hk
    have hofI : ∀ p ∈ news ++ own, p.1 ≠ pl := by
      intro p hp
      rcases List.mem_append.mp hp with hp | hp
      · exact Nat.ne_of_lt (hlt2 p hp)
      · exact hown p hp _ (.tail _ (.tail _ (.head _)))
    have hofS : ∀ p ∈ news ++ own, p.1 ≠ sg := by
      intro p hp
      rcases List.mem_append.mp hp with hp | hp
      · exact Nat.ne_of_lt (Nat.lt_trans (hlt2 p hp) hlt1)
      · exact hown p hp _ (.tail _ (.head _))
    have hDp : DD ≠ pl := Nat.ne_of_gt (Nat.lt_trans hlt1 hlt3)
    refine kl_popAt (k := (sgSt n i).2.2 % (sgSt n i).1.length) (its := pv.toArray) (n := n1) (by assumption) (by assumption) ?_ ?_ hcut (Upd.tail hDp (Upd.tail (Nat.ne_of_gt hlt1) (Upd.head hofI))) ?_ ?_
    · exact fitsIndex_of (by omega) (by omega)
    · exact seqIndex_nat (by rw [List.size_toArray, hpl]; exact hk)
    · simp only [List.toList_toArray, sizeLine]; omega
    · intro h6 F6 N6
      ktr_unf
      refine append_K F6 N6 (Upd.tail (Nat.ne_of_gt hlt3) (Upd.head (List.forall_mem_cons.mpr ⟨Nat.ne_of_lt hlt1, hofS⟩))) ?_ (by
        have := hsv.length
        have hs3 : (sgSt n i).2.1.length = i := sgSt_out n i
        rw [List.size_toArray, sizeLine]; omega)
      rw [List.push_toArray]
      intro h7 F7 N7
      ktr_unf
      have e2 : (((sgSt n i).2.2 : Nat) : Int).fdiv ((10 - i : Nat) : Int) = (((sgSt n (i + 1)).2.2 : Nat) : Int) := by
        show _ = (((sgSt n i).2.2 / (sgSt n i).1.length : Nat) : Int)
        rw [Int.fdiv_eq_ediv_of_nonneg _ (by omega), hlen]; exact (Int.natCast_ediv _ _).symm
      rename Fr _ _ _ _ => F8
      rename News _ _ _ _ => N8
      rw [e2] at F8
      refine' ⟨_, _, _, _, (DD, tupOf [.int 10 tk3, .int 9 (tk3 + 1), .int 8 (tk3 + 1 + 1)] 0) :: (sg, listOf (sv ++ [Value.str (S [(sgSt n i).1.getD ((sgSt n i).2.2 % (sgSt n i).1.length) 0]) ty]).toArray (n2 + 1)) :: (pl, listOf (p ++ q).toArray (n1 + 1)) :: news, rfl, F8, N8, ?g1, ?g2, ?g3, .head _, pl, sg, p ++ q, sv ++ [Value.str (S [(sgSt n i).1.getD ((sgSt n i).2.2 % (sgSt n i).1.length) 0]) ty], n1 + 1, n2 + 1, _, ?tkE, rfl, kstB_self ?kst, hpq, hsv.snoc, hlt1, hlt2, hlt3⟩
      case kst => kst_all
      case g1 => exact List.forall_mem_cons.mpr ⟨.head _, List.forall_mem_cons.mpr ⟨.tail _ (.head _), List.forall_mem_cons.mpr ⟨.tail _ (.tail _ (.head _)), fun p h => .tail _ (.tail _ (.tail _ (List.mem_append_left _ h)))⟩⟩⟩
      case g2 => exact fun p h => .tail _ (.tail _ (.tail _ (List.mem_append_right _ h)))
      case g3 =>
        intro r hr
        exact List.forall_mem_cons.mpr ⟨hown r hr _ (.head _), List.forall_mem_cons.mpr ⟨hown r hr (sg, listOf sv.toArray n2) (.tail _ (.head _)), List.forall_mem_cons.mpr ⟨hown r hr (pl, listOf pv.toArray n1) (.tail _ (.tail _ (.head _))), fun p h => hown r hr p (.tail _ (.tail _ (.tail _ h)))⟩⟩⟩
  · rintro m1 nx h5 tk5 htup ⟨pl, sg, pv, sv, n1, n2, u, k, rfl, rfl, hpv, hsv, hlt1, hlt2, hlt3⟩ F5 N5
    dsimp only [kstB] at F5 N5 ⊢
    ktr_unf
    rename Fr h₀ _ _ _ => kF
    rename News h₀ _ _ _ => kN
    exact ret _ _ sg sv n2 kF (cb_drop kN (List.forall_mem_cons.mpr ⟨.tail _ (.head _), fun p h => .tail _ (.tail _ (.tail _ h))⟩)) hsv (fun p h => Nat.lt_trans (hlt2 p h) hlt1)
end Mine
end

-- I1
section
open PySem PySem.W PyProof.Rows PyProof.V PySem.Spec
namespace Mine
set_option linter.unusedVariables false
set_option linter.unusedSimpArgs false
set_option maxRecDepth 100000
set_option maxHeartbeats 8000000

theorem dict_lit {prog : Program} {w : World} {A : Around} {E : Value → Shared → Prop} {s : Shared} {env : Env} {h₀ : Heap} {L : Addr} {m : Str → Option Value} {news : List (Addr × Obj)}
    {keys : List (Option PySem.Expr)} {values : List PySem.Expr} {pos : Pos} {Q : Value → Shared → Prop} (D : List (PyData × PyData))
    (F : Fr h₀ L s.heap m) (N : News h₀ L s.heap news) (hbig : h₀.NoLimit)
    (hD : litPairs keys values = some D) (hs : strKeyed D = true) (hn : (strKeysOf D).Nodup)
    (hall : keys.all (·.isSome) = true) (hl : keys.length = values.length) (h0 : keys ≠ []) (hlen : keys.length ≤ 15)
    (h : ∀ d h' o kvs tk, Fr h₀ L h' m → News h₀ L h' ((d, o) :: news) → (∀ p ∈ news, p.1 < d) → (d == sysModules) = false → o.IsDictOf (PySem.strKind prog w) kvs → FlatPairs PyData.str kvs D → Q (.ref d) { s with heap := h', toks := tk }) :
    wpAny (model prog w) A (eval (.Dict keys values pos) env) Q E s := by
  refine Dict_made (knd := PySem.strKind prog w) F hall hl h0 hlen fun F' => evalPairs_lits keys values D _ _ hD fun vs tk fr => ?_
  obtain ⟨h1, h2, h3⟩ := fr.str hs
  refine display_done_str h1 (h2 ▸ hn) (Heap.DictOf.new _) fun h' hm hsb => ?_
  obtain ⟨o, ho, hd⟩ := Heap.dictOf_iff.mp hm
  exact h _ h' o _ _ (F.filled hsb) (News.filled F N hsb ho) (fun p hp => Heap.lt_size (N p hp).1) (F.notModules (modules_low hbig)) hd h3

def tabD (k : Nat) : List (PyData × PyData) := (tabs k).map fun p => (.str (S [p.1]), .str (S p.2))
theorem tabD_keyed : ∀ (l : List (Nat × List Nat)), strKeyed (l.map fun p => (PyData.str (S [p.1]), PyData.str (S p.2))) = true
  | [] => rfl
  | _ :: r => tabD_keyed r
theorem tabD_keys : ∀ (l : List (Nat × List Nat)), strKeysOf (l.map fun p => (PyData.str (S [p.1]), PyData.str (S p.2))) = l.map fun p => S [p.1]
  | [] => rfl
  | _ :: r => congrArg (_ :: ·) (tabD_keys r)

theorem S1_inj {a b : Nat} (h : S [a] = S [b]) : a = b := by
  have h1 : ([a].toArray : Array Nat) = [b].toArray := congrArg Str.cps h
  have h2 := congrArg Array.toList h1
  simpa using h2
theorem nodup_S : ∀ (l : List Nat), l.Nodup → (l.map fun c => S [c]).Nodup
  | [], _ => List.nodup_nil
  | c :: r, h => by
    rw [List.nodup_cons] at h
    rw [List.map_cons, List.nodup_cons]
    refine ⟨fun hm => ?_, nodup_S r h.2⟩
    obtain ⟨d, hd, e⟩ := List.mem_map.mp hm
    exact h.1 (S1_inj e ▸ hd)
theorem tabs_nodup (k : Nat) : ((tabs k).map (·.1)).Nodup := by
  unfold tabs
  split <;> decide
theorem tabD_nodup (k : Nat) : (strKeysOf (tabD k)).Nodup := by
  unfold tabD
  rw [tabD_keys]
  have := nodup_S _ (tabs_nodup k)
  rw [List.map_map] at this
  exact this
def lits : Nat → List (String × String)
  | 0 => [("&", "&amp;"), ("<", "&lt;"), (">", "&gt;")]
  | 1 => [("&", "&amp;"), ("<", "&lt;"), (">", "&gt;"), ("\"", "&quot;"), ("\r", "&#13;"), ("\n", "&#10;"), ("\t", "&#09;")]
  | 2 => [("&", "&amp;"), (">", "&gt;"), ("\"", "&quot;")]
  | 3 => [("&", "&amp;"), ("<", "&lt;"), (">", "&gt;"), ("\r", "&#xD;")]
  | _ => [("&", "&amp;"), ("<", "&lt;"), ("\"", "&quot;"), ("\t", "&#x9;"), ("\n", "&#xA;"), ("\r", "&#xD;")]
def litD (k : Nat) : List (PyData × PyData) := (lits k).map fun p => (.str (Str.ofString p.1), .str (Str.ofString p.2))
theorem lits_eq : ∀ k, k < 5 → (lits k).map (fun p => (Str.ofString p.1, Str.ofString p.2)) = (tabs k).map fun p => (S [p.1], S p.2) := by decide +kernel
theorem litD_eq {k : Nat} (hk : k < 5) : litD k = tabD k := by
  have h := congrArg (List.map fun p : Str × Str => (PyData.str p.1, PyData.str p.2)) (lits_eq k hk)
  rw [List.map_map, List.map_map] at h
  exact h
theorem litD_keyed (k : Nat) (hk : k < 5) : strKeyed (litD k) = true := litD_eq hk ▸ tabD_keyed _
theorem litD_nodup (k : Nat) (hk : k < 5) : (strKeysOf (litD k)).Nodup := litD_eq hk ▸ tabD_nodup k
local macro_rules | `(tactic| ktr_unf) => `(tactic| repeat' (
  (fail_if_success (with_reducible show wpAny _ _ (eval (PySem.Expr.Dict _ _ _) _) _ _ _));
  (fail_if_success (with_reducible show wpAny _ _ (subscriptTail _ _ (Value.ref _) (Value.int _ _)) _ _ _));
  first | (k_unfold; (try dsimp only)) | walk1 | (dsimp only; walk1) | (leave1; walk_say "STEP leave1"; try dsimp only) | fail "no step"))

theorem images_c {w : World} {mean : ExcName → Option Value} {mg mb : Str → Option Value} {dp un : Nat} {gd : Option (List Code)} {cn : Str} {cs : Scope} {a : Addr} {ccd : Value} {cl : List (Str × Addr)} {outer : List Env} {A₀ : Around} {base h₀ : Heap} {L : Addr} {m : Str → Option Value} {s : Shared} {Q E : Value → Shared → Prop}
   {news : List (Addr × Obj)} {k : Nat} {t : Tok}
   (B : Below A₀ base outer h₀) (F : Fr h₀ L s.heap m) (X : (hd.heap_39 w.params).In h₀) (N : News h₀ L s.heap news)
   (T : Top hd.view_39 (looseW hd.view_39 []) mean mg mb h₀) (hk : cs.kind = .function)
   (hn : k < 5) (hdp : dp + 3 < recursionLimit) (hun : un + 40 < cLine)
   (ret : ∀ h' tk' (d : Addr) (o : Obj) (kvs : List (Str × Value)), Fr h₀ L h' m → News h₀ L h' ((d, o) :: news) → (∀ p ∈ news, p.1 < d) → (d == sysModules) = false → o.IsDictOf (PySem.strKind Challenge.rw_mr0207_01.row.prog w) kvs → FlatPairs PyData.str kvs (tabD k) → Q (.ref d) { s with heap := h', toks := tk' }) :
   wpAny (model Challenge.rw_mr0207_01.row.prog w) (ktrTop dp un gd cn cs L a ccd cl outer) (call (.ref 91) [.int (k : Nat) t]) Q E s := by
  refine wpAny_call ?_
  k_dflt ktr_enter
  ktr_unf
  rename Fr _ _ _ _ => F0a
  rename News _ _ _ _ => N0a
  with_reducible refine dict_lit (litD 0) F0a N0a (Top.nolimit (by assumption)) ?a0 ?b0 ?c0 ?d0 ?e0 ?f0 ?g0 ?_
  case a0 => rfl
  case b0 => exact litD_keyed _ (by decide)
  case c0 => exact litD_nodup _ (by decide)
  case d0 => rfl
  case e0 => rfl
  case f0 => exact List.cons_ne_nil _ _
  case g0 => decide
  intro d0 h0 o0 kv0 tk0 F0 N0 l0 lo0 hd0 hf0
  rw [litD_eq (by decide)] at hf0
  dsimp only
  ktr_unf
  rename Fr _ _ _ _ => F1a
  rename News _ _ _ _ => N1a
  with_reducible refine dict_lit (litD 1) F1a N1a (Top.nolimit (by assumption)) ?a1 ?b1 ?c1 ?d1 ?e1 ?f1 ?g1 ?_
  case a1 => rfl
  case b1 => exact litD_keyed _ (by decide)
  case c1 => exact litD_nodup _ (by decide)
  case d1 => rfl
  case e1 => rfl
  case f1 => exact List.cons_ne_nil _ _
  case g1 => decide
  intro d1 h1 o1 kv1 tk1 F1 N1 l1 lo1 hd1 hf1
  rw [litD_eq (by decide)] at hf1
  dsimp only
  ktr_unf
  rename Fr _ _ _ _ => F2a
  rename News _ _ _ _ => N2a
  with_reducible refine dict_lit (litD 2) F2a N2a (Top.nolimit (by assumption)) ?a2 ?b2 ?c2 ?d2 ?e2 ?f2 ?g2 ?_
  case a2 => rfl
  case b2 => exact litD_keyed _ (by decide)
  case c2 => exact litD_nodup _ (by decide)
  case d2 => rfl
  case e2 => rfl
  case f2 => exact List.cons_ne_nil _ _
  case g2 => decide
  intro d2 h2 o2 kv2 tk2 F2 N2 l2 lo2 hd2 hf2
  rw [litD_eq (by decide)] at hf2
  dsimp only
  ktr_unf
  rename Fr _ _ _ _ => F3a
  rename News _ _ _ _ => N3a
  with_reducible refine dict_lit (litD 3) F3a N3a (Top.nolimit (by assumption)) ?a3 ?b3 ?c3 ?d3 ?e3 ?f3 ?g3 ?_
  case a3 => rfl
  case b3 => exact litD_keyed _ (by decide)
  case c3 => exact litD_nodup _ (by decide)
  case d3 => rfl
  case e3 => rfl
  case f3 => exact List.cons_ne_nil _ _
  case g3 => decide
  intro d3 h3 o3 kv3 tk3 F3 N3 l3 lo3 hd3 hf3
  rw [litD_eq (by decide)] at hf3
  dsimp only
  ktr_unf
  rename Fr _ _ _ _ => F4a
  rename News _ _ _ _ => N4a
  with_reducible refine dict_lit (litD 4) F4a N4a (Top.nolimit (by assumption)) ?a4 ?b4 ?c4 ?d4 ?e4 ?f4 ?g4 ?_
  case a4 => rfl
  case b4 => exact litD_keyed _ (by decide)
  case c4 => exact litD_nodup _ (by decide)
  case d4 => rfl
  case e4 => rfl
  case f4 => exact List.cons_ne_nil _ _
  case g4 => decide
  intro d4 h4 o4 kv4 tk4 F4 N4 l4 lo4 hd4 hf4
  rw [litD_eq (by decide)] at hf4
  dsimp only
  ktr_unf
  rename News _ _ _ _ => N6
  rename_i DD h5 l6 h6 F6
  have hT : IsTup h6 DD [Value.ref d0, .ref d1, .ref d2, .ref d3, .ref d4].toArray := ⟨_, (N6 _ (.head _)).1, rfl, _, rfl⟩
  obtain ⟨d, o, kv, hx, hmem, hlt, hlo, hdd, hff⟩ : ∃ d o kv, [Value.ref d0, .ref d1, .ref d2, .ref d3, .ref d4][k]? = some (.ref d) ∧ (d, o) ∈ (DD, tupOf [Value.ref d0, .ref d1, .ref d2, .ref d3, .ref d4] 0) :: (d4, o4) :: (d3, o3) :: (d2, o2) :: (d1, o1) :: (d0, o0) :: news ∧ (∀ p ∈ news, p.1 < d) ∧ (d == sysModules) = false ∧ o.IsDictOf (PySem.strKind Challenge.rw_mr0207_01.row.prog w) kv ∧ FlatPairs PyData.str kv (tabD k) := by
    clear hT N6 F6 F
    match k, hn with
    | 0, _ => exact ⟨d0, o0, kv0, rfl, .tail _ (.tail _ (.tail _ (.tail _ (.tail _ (.head _))))), fun p hp => l0 p (hp), lo0, hd0, hf0⟩
    | 1, _ => exact ⟨d1, o1, kv1, rfl, .tail _ (.tail _ (.tail _ (.tail _ (.head _)))), fun p hp => l1 p (.tail _ (hp)), lo1, hd1, hf1⟩
    | 2, _ => exact ⟨d2, o2, kv2, rfl, .tail _ (.tail _ (.tail _ (.head _))), fun p hp => l2 p (.tail _ (.tail _ (hp))), lo2, hd2, hf2⟩
    | 3, _ => exact ⟨d3, o3, kv3, rfl, .tail _ (.tail _ (.head _)), fun p hp => l3 p (.tail _ (.tail _ (.tail _ (hp)))), lo3, hd3, hf3⟩
    | 4, _ => exact ⟨d4, o4, kv4, rfl, .tail _ (.head _), fun p hp => l4 p (.tail _ (.tail _ (.tail _ (.tail _ (hp))))), lo4, hd4, hf4⟩
  with_reducible refine item_tupleT (j := k) hT ?i1 ?i2 ?i3 hx ?_ ?i4
  case i1 => omega
  case i2 => omega
  case i3 => exact seqIndex_nat (by simpa using hn)
  case i4 => with_unfolding_all rfl
  ktr_unf
  rename Fr h₀ _ _ _ => kF
  rename News h₀ _ _ _ => kN
  exact ret _ _ d o kv kF (cb_drop kN (List.forall_mem_cons.mpr ⟨hmem, fun p h => .tail _ (.tail _ (.tail _ (.tail _ (.tail _ (.tail _ h)))))⟩)) hlt hlo hdd hff
end Mine
end

-- J1
section
open PySem PySem.W PyProof.Rows PyProof.V PySem.Spec
namespace Mine
open PyProof.Rows.LCg
set_option linter.unusedVariables false
set_option linter.unusedSimpArgs false
set_option maxRecDepth 100000
set_option maxHeartbeats 8000000

theorem CodesAre.strs : ∀ {vs : List Value} {cs : List Nat}, CodesAre vs cs → StrsAre vs (cs.map fun c => S [c])
  | [], [], _ => .nil
  | _ :: _, _ :: _, ⟨⟨t, e⟩, r⟩ => by subst e; exact .cons _ _ (CodesAre.strs r)
  | [], _ :: _, h => h.elim
  | _ :: _, [], h => h.elim
theorem strs_snoc {y : Str} {t : Tok} : ∀ {vs : List Value} {ys : List Str}, StrsAre vs ys → StrsAre (vs ++ [.str y t]) (ys ++ [y])
  | _, _, .nil => .cons y t .nil
  | _, _, .cons z u r => .cons z u (strs_snoc r)
theorem codes_of_strs : ∀ {vs : List Value} {cs : List Nat}, StrsAre vs (cs.map fun c => S [c]) → CodesAre vs cs
  | [], [], _ => trivial
  | _ :: _, _ :: _, .cons _ t r => ⟨⟨t, rfl⟩, codes_of_strs r⟩
  | [], _ :: _, h => by cases h
  | _ :: _, [], h => by cases h
theorem strs_codes : ∀ {vs : List Value} {ss : List Str} {cs : List Nat}, StrsAre vs ss → ss.Perm (cs.map fun c => S [c]) → ∃ cs' : List Nat, ss = cs'.map (fun c => S [c]) ∧ cs'.Perm cs := by
  intro vs ss cs _ hp
  have h1 : ∀ x ∈ ss, ∃ c, x = S [c] := by
    intro x hx
    obtain ⟨c, _, e⟩ := List.mem_map.mp (hp.mem_iff.mp hx)
    exact ⟨c, e.symm⟩
  have h2 : ∀ l : List Str, (∀ x ∈ l, ∃ c, x = S [c]) → l = (l.map fun x => x.cps.toList.headD 0).map fun c => S [c] := by
    intro l
    induction l with
    | nil => intro _; rfl
    | cons a r ih =>
      intro h
      obtain ⟨c, e⟩ := h a (.head _)
      rw [List.map_cons, List.map_cons, ← ih (fun x hx => h x (.tail _ hx)), e]
      rfl
  refine ⟨_, h2 ss h1, ?_⟩
  have h3 := hp.map (fun x : Str => x.cps.toList.headD 0)
  rw [List.map_map] at h3
  have h4 : cs.map ((fun x : Str => x.cps.toList.headD 0) ∘ fun c => S [c]) = cs := by
    have : (((fun x : Str => x.cps.toList.headD 0) ∘ fun c => S [c]) : Nat → Nat) = id := funext fun c => rfl
    rw [this, List.map_id]
  rw [h4] at h3
  exact h3

section
variable {prog : Program} {w : World} {A : Around} {E : Value → Shared → Prop} {s : Shared} {t : Tok} {Q : Value → Shared → Prop}

theorem join_S_eq : ∀ ls : List (List Nat), Txt.join (Str.ofString "") (ls.map S) = S ls.flatten := by
  intro ls
  show Builtin.Str.glued (Str.ofString "") (ls.map S) = _
  have e0 : (Str.ofString "").cps = #[] := by decide +kernel
  unfold Builtin.Str.glued
  rw [e0]
  have key : ∀ (l : List (List Nat)) (acc : List Nat), (l.map S).foldl (fun acc p => acc ++ #[] ++ p.cps) acc.toArray = (acc ++ l.flatten).toArray := by
    intro l
    induction l with
    | nil => intro acc; simp
    | cons a r ih =>
      intro acc
      rw [List.map_cons, List.foldl_cons]
      have : acc.toArray ++ #[] ++ (S a).cps = (acc ++ a).toArray := by show acc.toArray ++ #[] ++ a.toArray = _; simp
      rw [this, ih, List.flatten_cons, List.append_assoc]
  cases ls with
  | nil => rfl
  | cons a r =>
    show (⟨(r.map S).foldl _ a.toArray⟩ : Str) = _
    rw [key]
    rfl

theorem join_S {D : Addr} {vs : List Value} {ls : List (List Nat)} (hl : s.heap.IsList D vs.toArray) (hi : StrsAre vs (ls.map S)) (hw : (ls.map List.length).sum ≤ 1000000)
    (h : ∀ t' k, Q (.str (S ls.flatten) t') { s with toks := k }) : wpAny (model prog w) A (call (.builtin "str.join") [.str (Str.ofString "") t, .ref D]) Q E s := by
  refine join_list hl hi ?_ fun t' k => ?_
  · have e1 : (ls.map S).map (·.length) = ls.map List.length := by
      rw [List.map_map]
      refine List.map_congr_left fun l _ => ?_
      show l.toArray.size = _
      rw [List.size_toArray]
    have e2 : (Str.ofString "").length = 0 := by decide +kernel
    rw [e1, e2]
    omega
  · rw [join_S_eq]; exact h t' k

theorem sorted_codes {h₀ : Heap} {L : Addr} {m : Str → Option Value} {news : List (Addr × Obj)} {l : Addr} {vs : List Value} {cs : List Nat}
    (F : Fr h₀ L s.heap m) (N : News h₀ L s.heap news) (hl : s.heap.IsList l vs.toArray) (hS : CodesAre vs cs) (h64 : cs.length < 64)
    (h : ∀ h' D (vs' : List Value) (cs' : List Nat) e, Fr h₀ L h' m → News h₀ L h' ((D, listOf vs'.toArray e) :: news) → (∀ p ∈ news, p.1 < D) → CodesAre vs' cs' → cs'.Perm cs → cs'.Pairwise (· ≤ ·) → Q (.ref D) { s with heap := h' }) :
    wpAny (model prog w) A (call (.builtin "sorted") [.ref l]) Q E s := by
  have hlen := hS.length
  refine sorted_N_str F N hl hS.strs (by omega) fun h' vs' ss' e F' N' hS' hp hs => ?_
  obtain ⟨cs', rfl, hpc⟩ := strs_codes hS' hp
  refine h h' _ vs' cs' e F' N' (fun p hp => Nat.lt_succ_of_lt (Heap.lt_size (N p hp).1)) (codes_of_strs hS') hpc ?_
  clear hp hpc hS' N' h64 h hS hl hlen
  have ltc : ∀ a b : Nat, ltCps (S [b]).cps.toList (S [a]).cps.toList = false → a ≤ b := by
    intro a b hab
    rw [ltCps_eq] at hab
    have h1 : ¬ [b] < [a] := of_decide_eq_false hab
    apply Nat.le_of_not_lt
    intro hlt
    exact h1 (List.Lex.rel hlt)
  have rise : ∀ (l : List Nat) (p : Nat), risingS (S [p]) (l.map fun c => S [c]) = true → (p :: l).Pairwise (· ≤ ·) := by
    intro l
    induction l with
    | nil => intro p _; exact List.pairwise_singleton _ _
    | cons a r ih =>
      intro p hr
      have h1 : (!ltCps (S [a]).cps.toList (S [p]).cps.toList && risingS (S [a]) (r.map fun c => S [c])) = true := hr
      rw [Bool.and_eq_true, Bool.not_eq_true'] at h1
      have h2 := ih a h1.2
      have h3 := ltc p a h1.1
      refine List.pairwise_cons.mpr ⟨fun x hx => ?_, h2⟩
      rcases List.mem_cons.mp hx with rfl | hx
      · exact h3
      · exact Nat.le_trans h3 ((List.pairwise_cons.mp h2).1 x hx)
  cases cs' with
  | nil => exact .nil
  | cons a r => exact rise r a hs
end

section
variable {prog : Program} {w : World} {A : Around} {E : Value → Shared → Prop} {s : Shared} {h₀ : Heap} {L : Addr} {m : Str → Option Value} {env : Env}
open PySem.Calls

def StrSrc (prog : Program) (w : World) (A : Around) (h₀ : Heap) (L : Addr) (m : Str → Option Value) (env : Env) (elt : Expr) (x : Str) (scope : Scope) (cl : List (Str × Addr)) (Q : Value → Shared → Prop) (xv : Value) (s₁ : Shared) : Prop :=
  ∃ tx t news, xv = .str tx t ∧ A.handled = none ∧ Fr h₀ L s₁.heap m ∧ News h₀ L s₁.heap news ∧ tx.cps.size ≤ sizeLine ∧
      ∀ g, CompRest prog w A h₀ L m env elt x scope cl { s₁ with heap := g } (fun _ => True) (SignAt tx) (FinE h₀ L m { s₁ with heap := g } Q) tx.cps.size 0 [] news
theorem StrSrc.intro {elt : Expr} {x : Str} {scope : Scope} {cl : List (Str × Addr)} {Q : Value → Shared → Prop} {s₁ : Shared} {l : List Nat} {t : Tok} {news : List (Addr × Obj)}
    (hh : A.handled = none) (F : Fr h₀ L s₁.heap m) (N : News h₀ L s₁.heap news) (hz : l.length ≤ 1000)
    (h : ∀ g, CompRest prog w A h₀ L m env elt x scope cl { s₁ with heap := g } (fun _ => True) (fun i v => ∃ c u, l[i]? = some c ∧ v = .str (S [c]) u) (FinE h₀ L m { s₁ with heap := g } Q) l.length 0 [] news) :
    StrSrc prog w A h₀ L m env elt x scope cl Q (.str (S l) t) s₁ := by
  have e : (S l).cps.size = l.length := by show l.toArray.size = _; rw [List.size_toArray]
  have eP : SignAt (S l) = fun i v => ∃ c u, l[i]? = some c ∧ v = .str (S [c]) u := by
    funext i v
    unfold SignAt
    have : (S l).cps[i]? = l[i]? := by show l.toArray[i]? = _; rw [List.getElem?_toArray]
    rw [this]
    rfl
  refine ⟨S l, t, news, rfl, hh, F, N, by rw [e, sizeLine]; omega, ?_⟩
  rw [e, eP]
  exact h
/-- a comprehension over a text -/
theorem ListComp_Str {elt iter : Expr} {x : Str} {px : Pos} {scope : Scope} {cl : List (Str × Addr)} {pos : Pos} {Q : Value → Shared → Prop} (F₀ : Fr h₀ L s.heap m)
    (hclos : closureFor scope env = pure cl) (hcell : ∀ y ∈ scope.names, y.2 ≠ .cell) (hkind : scope.kind = .function)
    (hnames : ∀ y ∈ scope.names, y.2 = .local → scope.names.lookup y.1 = some .local) (hx : scope.names.lookup x = some .local)
    (h : wpAny (model prog w) A (eval iter env) (StrSrc prog w A h₀ L m env elt x scope cl Q) E s)
    (hs : ∀ x, foldedSetIterable iter env x = pure x := by intro _; rfl) :
    wpAny (model prog w) A (eval (.ListComp elt [⟨.Name x px, iter, [], 0⟩] scope pos) env) Q E s := by
  rw [eval_ListComp]
  refine wpAny_comprehension_free (use := none) rfl hs hclos hkind hnames (wpAny_mono h (fun xv s₁ h₁ => ?_) fun _ _ e => e)
  obtain ⟨tx, t, news, rfl, hh, F, N, hsz, R⟩ := h₁
  cases ha : tx.cps.all (· < 128)
  · refine wpAny_pyIter_wide ha ?_
    refine block_U (Walks.strWide hh s₁.heap.objs.size tx t) hsz (fun i h st => by obtain ⟨o, e, _⟩ := st; exact ⟨o, e⟩) (fun i h h' o nw st e e' _ _ _ => by obtain ⟨o', q, r⟩ := st; rw [e] at q; cases q; exact ⟨o, e', r⟩) hcell hkind hx ⟨_, Heap.get?_push_size _ rfl, rfl, rfl⟩ (fun b hb => ?_)
      (F.keeps fun _ _ e => Heap.get?_push_of_some _ e) (N.grown fun _ _ e => Heap.get?_push_of_some _ e) (Nat.ne_of_lt F.ns.lt) (next_is_new F) (fun p hp => Nat.ne_of_lt (Heap.lt_size (N p hp).1)) trivial (R _) ?_
    · rw [List.mem_singleton.mp hb]
      show s₁.heap.objs.size < (s₁.heap.push _).objs.size
      rw [Heap.size_push]; exact Nat.lt_succ_self _
    · intro D C h tk m' ys news' F' N' o1 hn hC₀ hD₀ hCL hDL hCD offC fin
      refine ⟨m', hn, fun h'' hs'' => fin D h'' tk (F'.change hs'' hCL hC₀) (fun p hp => ?_) o1⟩
      refine ⟨hs''.extBut _ _ ?_ (N' p hp).1, (N' p hp).2⟩
      rcases List.mem_cons.mp hp with rfl | hp
      · exact Ne.symm hCD
      · exact offC p hp
  · refine wpAny_pyIter_ascii ha ?_
    refine block_U (Walks.strAscii hh s₁.heap.objs.size tx t) hsz (fun i h st => by obtain ⟨o, e, _⟩ := st; exact ⟨o, e⟩) (fun i h h' o nw st e e' _ _ _ => by obtain ⟨o', q, r⟩ := st; rw [e] at q; cases q; exact ⟨o, e', r⟩) hcell hkind hx ⟨_, Heap.get?_push_size _ rfl, rfl, rfl⟩ (fun b hb => ?_)
      (F.keeps fun _ _ e => Heap.get?_push_of_some _ e) (N.grown fun _ _ e => Heap.get?_push_of_some _ e) (Nat.ne_of_lt F.ns.lt) (next_is_new F) (fun p hp => Nat.ne_of_lt (Heap.lt_size (N p hp).1)) trivial (R _) ?_
    · rw [List.mem_singleton.mp hb]
      show s₁.heap.objs.size < (s₁.heap.push _).objs.size
      rw [Heap.size_push]; exact Nat.lt_succ_self _
    · intro D C h tk m' ys news' F' N' o1 hn hC₀ hD₀ hCL hDL hCD offC fin
      refine ⟨m', hn, fun h'' hs'' => fin D h'' tk (F'.change hs'' hCL hC₀) (fun p hp => ?_) o1⟩
      refine ⟨hs''.extBut _ _ ?_ (N' p hp).1, (N' p hp).2⟩
      rcases List.mem_cons.mp hp with rfl | hp
      · exact Ne.symm hCD
      · exact offC p hp
end
end Mine
end

-- P1
section
open PySem PySem.W PyProof.Rows
namespace Mine
set_option linter.unusedVariables false
set_option linter.unusedSimpArgs false
set_option maxRecDepth 100000
set_option maxHeartbeats 4000000

def imgP (k c : Nat) : List Nat := ((tabs k).lookup c).getD [c]
theorem imgs_len : ∀ {l : List (Nat × List Nat)} (c : Nat), (∀ p ∈ l, 1 ≤ p.2.length ∧ p.2.length ≤ 6) → 1 ≤ ((l.lookup c).getD [c]).length ∧ ((l.lookup c).getD [c]).length ≤ 6 := by
  intro l c
  induction l with
  | nil => intro _; exact ⟨Nat.le_refl _, by show 1 ≤ 6; decide⟩
  | cons p r ih =>
    intro h
    rw [List.lookup_cons]
    cases hb : c == p.1 with
    | true => exact h p (.head _)
    | false => exact ih fun q hq => h q (.tail _ hq)
theorem tabs_len (k : Nat) : ∀ p ∈ tabs k, 1 ≤ p.2.length ∧ p.2.length ≤ 6 := by
  unfold tabs
  split <;> decide
theorem imgP_len (k c : Nat) : 1 ≤ (imgP k c).length ∧ (imgP k c).length ≤ 6 := imgs_len c (tabs_len k)
theorem imgs_sum (k : Nat) : ∀ l : List Nat, ((l.map (imgP k)).map List.length).sum ≤ 6 * l.length
  | [] => Nat.le_refl _
  | c :: r => by
    have h1 := imgs_sum k r
    have h2 := (imgP_len k c).2
    simp only [List.map_cons, List.sum_cons, List.length_cons]
    omega

-- the escapes, sign by sign
theorem fold_rep_append : ∀ (T : List (Nat × List Nat)) (a b : List Nat), T.foldl (fun l p => rep1 p.1 p.2 l) (a ++ b) = T.foldl (fun l p => rep1 p.1 p.2 l) a ++ T.foldl (fun l p => rep1 p.1 p.2 l) b
  | [], _, _ => rfl
  | p :: T, a, b => by rw [List.foldl_cons, List.foldl_cons, List.foldl_cons, rep1_append, fold_rep_append T]
theorem fold_rep_free : ∀ (T : List (Nat × List Nat)) (l : List Nat), (∀ p ∈ T, p.1 ∉ l) → T.foldl (fun l p => rep1 p.1 p.2 l) l = l
  | [], _, _ => rfl
  | p :: T, l, h => by
    rw [List.foldl_cons, rep1_free _ _ _ (h p (.head _))]
    exact fold_rep_free T l fun q hq => h q (.tail _ hq)
def goodT : List (Nat × List Nat) → Bool
  | [] => true
  | p :: r => r.all (fun q => !p.2.contains q.1) && goodT r
theorem fold_rep_one : ∀ (T : List (Nat × List Nat)) (c : Nat), goodT T = true → T.foldl (fun l p => rep1 p.1 p.2 l) [c] = (T.lookup c).getD [c]
  | [], _, _ => rfl
  | (a, z) :: T, c, h => by
    unfold goodT at h
    rw [Bool.and_eq_true] at h
    rw [List.foldl_cons, List.lookup_cons]
    by_cases hac : c = a
    · subst hac
      rw [beq_self_eq_true]
      have e : rep1 c z [c] = z := by simp [rep1]
      dsimp only
      rw [e]
      refine fold_rep_free T z fun q hq hin => ?_
      have h1 := List.all_eq_true.mp h.1 q hq
      simp [hin] at h1
    · have hb : (c == a) = false := by simpa using hac
      rw [hb]
      dsimp only
      rw [rep1_free a z [c] (by simpa using Ne.symm hac)]
      exact fold_rep_one T c h.2
theorem tabs_good (k : Nat) : goodT (tabs k) = true := by
  unfold tabs
  split <;> decide
theorem escP_append (k : Nat) (a b : List Nat) : escP k (a ++ b) = escP k a ++ escP k b := fold_rep_append _ _ _
theorem escP_eq (k : Nat) : ∀ l : List Nat, escP k l = l.flatMap (imgP k)
  | [] => fold_rep_free _ _ fun p _ h => List.not_mem_nil h
  | c :: r => by
    have e1 : escP k [c] = imgP k c := fold_rep_one _ _ (tabs_good k)
    have e2 := escP_append k [c] r
    rw [e1, escP_eq k r] at e2
    exact e2
theorem escP_len (k : Nat) : ∀ l, (escP k l).length ≤ 6 * l.length := by
  intro l
  rw [escP_eq]
  induction l with
  | nil => exact Nat.le_refl _
  | cons c r ih =>
    have := (imgP_len k c).2
    rw [List.flatMap_cons, List.length_append, List.length_cons]
    omega

-- three letters
set_option linter.constructorNameAsVariable false
inductive L3 where
  | a | b | c
def L3.pick {α : Type} (x y z : α) (l : L3) : α := match l with
  | .a => x
  | .b => y
  | .c => z
def L3.lt (p q : L3) : Bool := match p with
  | .a => q.pick false true true
  | .b => q.pick false false true
  | .c => false
def L3.eq (p q : L3) : Bool := match p with
  | .a => q.pick true false false
  | .b => q.pick false true false
  | .c => q.pick false false true
theorem L3.eq_of {p q : L3} (h : L3.eq p q = true) : p = q := by
  cases p <;> cases q <;> first | rfl | exact absurd h (by decide)
def wz (z0 z1 z2 : Nat) : List L3 → Nat
  | [] => 0
  | l :: r => L3.pick z0 z1 z2 l + wz z0 z1 z2 r
def ltV : List L3 → List L3 → Bool
  | [], [] => false
  | [], _ :: _ => true
  | _ :: _, [] => false
  | p :: x, q :: y => cond (L3.eq p q) (ltV x y) (L3.lt p q)
def eqV : List L3 → List L3 → Bool
  | [], [] => true
  | [], _ :: _ => false
  | _ :: _, [] => false
  | p :: x, q :: y => cond (L3.eq p q) (eqV x y) false
theorem eqV_of : ∀ {x y : List L3}, eqV x y = true → x = y
  | [], [], _ => rfl
  | [], _ :: _, h => by cases h
  | _ :: _, [], h => by cases h
  | p :: x, q :: y, h => by
    unfold eqV at h
    cases hb : L3.eq p q with
    | true => rw [hb] at h; rw [L3.eq_of hb, eqV_of (x := x) (y := y) h]
    | false => rw [hb] at h; cases h
def eqVV : List (List L3) → List (List L3) → Bool
  | [], [] => true
  | [], _ :: _ => false
  | _ :: _, [] => false
  | p :: x, q :: y => cond (eqV p q) (eqVV x y) false
theorem eqVV_of : ∀ {x y : List (List L3)}, eqVV x y = true → x = y
  | [], [], _ => rfl
  | [], _ :: _, h => by cases h
  | _ :: _, [], h => by cases h
  | p :: x, q :: y, h => by
    unfold eqVV at h
    cases hb : eqV p q with
    | true => rw [hb] at h; rw [eqV_of hb, eqVV_of (x := x) (y := y) h]
    | false => rw [hb] at h; cases h
def lt3 (z0 z1 z2 : Nat) (u v : List L3) : Bool := cond (Nat.beq (wz z0 z1 z2 u) (wz z0 z1 z2 v)) (ltV u v) (Nat.blt (wz z0 z1 z2 u) (wz z0 z1 z2 v))
def sim3 (z0 z1 z2 : Nat) (p q r : L3) : List (List L3) := (simG (lt3 z0 z1 z2) (· ++ [p]) (· ++ [q]) (· ++ [r]) [] 10).2
def pickA (C : List Int) (z : L3 → Nat) (left : Nat) : List L3 → Int → Option (L3 × Int)
  | [], _ => none
  | c :: r, p => if p < (if z c ≤ left then C.getD (left - z c) 0 else 0) then some (c, p) else pickA C z left r (p - (if z c ≤ left then C.getD (left - z c) 0 else 0))
def led2A (C : List Int) (z : L3 → Nat) : Nat → Nat → Int → List L3 → Option (List L3)
  | 0, left, _, t => if left = 0 then some t else none
  | f + 1, left, p, t => if left = 0 then some t else
    match pickA C z left [.a, .b, .c] p with
    | none => none
    | some (c, p') => if z c ≤ left then led2A C z f (left - z c) p' (t ++ [c]) else none
def ledA (C : List Int) (z : L3 → Nat) (place : Int) : Option (List L3) :=
  match led1 C 13 place 0 with
  | some (p, n) => led2A C z 13 n p []
  | none => none
def ledChk (C : List Int) (z : L3 → Nat) : Nat → List (List L3) → Bool
  | _, [] => true
  | i, w :: r => cond ((ledA C z (i : Int)).elim false fun u => eqV u w) (ledChk C z (i + 1) r) false
def okz (z0 z1 z2 : Nat) (L : List (List L3)) : Bool :=
  eqVV (sim3 z0 z1 z2 .a .b .c) L && (eqVV (sim3 z0 z1 z2 .a .c .b) L && (eqVV (sim3 z0 z1 z2 .b .a .c) L && (eqVV (sim3 z0 z1 z2 .b .c .a) L && (eqVV (sim3 z0 z1 z2 .c .a .b) L && (eqVV (sim3 z0 z1 z2 .c .b .a) L && ledChk (cnt [z0, z1, z2] 12) (L3.pick z0 z1 z2) 0 L)))))
theorem ledChk_of {C : List Int} {z : L3 → Nat} : ∀ {L : List (List L3)} {i : Nat}, ledChk C z i L = true → ∀ (j : Nat) (w : List L3), L[j]? = some w → ledA C z ((i + j : Nat) : Int) = some w
  | [], _, _, j, w, hj => by rw [List.getElem?_nil] at hj; cases hj
  | v :: r, i, h, j, w, hj => by
    unfold ledChk at h
    cases hl : ledA C z (i : Int) with
    | none => rw [hl] at h; cases h
    | some u =>
      rw [hl] at h
      dsimp only [Option.elim] at h
      cases hb : eqV u v with
      | false => rw [hb] at h; cases h
      | true =>
        rw [hb] at h
        cases j with
        | zero =>
          cases Option.some.inj hj
          rw [Nat.add_zero, hl, eqV_of hb]
        | succ j =>
          have := ledChk_of (L := r) (i := i + 1) h j w hj
          rw [← this]
          congr 2
          omega
def tb0 : List (List L3) := [[], [.a], [.b], [.c], [.a, .a], [.a, .b], [.a, .c], [.b, .a], [.b, .b], [.b, .c]]
theorem ok0 : okz 1 1 1 tb0 = true := by decide +kernel
def tb1 : List (List L3) := [[], [.a], [.b], [.a, .a], [.a, .b], [.b, .a], [.b, .b], [.a, .a, .a], [.a, .a, .b], [.a, .b, .a]]
theorem ok1 : okz 1 1 4 tb1 = true := by decide +kernel
def tb2 : List (List L3) := [[], [.a], [.b], [.a, .a], [.a, .b], [.b, .a], [.b, .b], [.a, .a, .a], [.a, .a, .b], [.a, .b, .a]]
theorem ok2 : okz 1 1 5 tb2 = true := by decide +kernel
def tb3 : List (List L3) := [[], [.a], [.b], [.a, .a], [.a, .b], [.b, .a], [.b, .b], [.a, .a, .a], [.a, .a, .b], [.a, .b, .a]]
theorem ok3 : okz 1 1 6 tb3 = true := by decide +kernel
def tb4 : List (List L3) := [[], [.a], [.c], [.a, .a], [.a, .c], [.c, .a], [.c, .c], [.a, .a, .a], [.a, .a, .c], [.a, .c, .a]]
theorem ok4 : okz 1 4 1 tb4 = true := by decide +kernel
def tb5 : List (List L3) := [[], [.a], [.a, .a], [.a, .a, .a], [.a, .a, .a, .a], [.b], [.c], [.a, .a, .a, .a, .a], [.a, .b], [.a, .c]]
theorem ok5 : okz 1 4 4 tb5 = true := by decide +kernel
def tb6 : List (List L3) := [[], [.a], [.c], [.a, .a], [.a, .c], [.c, .a], [.c, .c], [.a, .a, .a], [.a, .a, .c], [.a, .c, .a]]
theorem ok6 : okz 1 5 1 tb6 = true := by decide +kernel
def tb7 : List (List L3) := [[], [.a], [.a, .a], [.a, .a, .a], [.a, .a, .a, .a], [.c], [.a, .a, .a, .a, .a], [.a, .c], [.b], [.c, .a]]
theorem ok7 : okz 1 5 4 tb7 = true := by decide +kernel
def tb8 : List (List L3) := [[], [.a], [.a, .a], [.a, .a, .a], [.a, .a, .a, .a], [.a, .a, .a, .a, .a], [.b], [.c], [.a, .a, .a, .a, .a, .a], [.a, .b]]
theorem ok8 : okz 1 5 5 tb8 = true := by decide +kernel
def tb9 : List (List L3) := [[], [.a], [.c], [.a, .a], [.a, .c], [.c, .a], [.c, .c], [.a, .a, .a], [.a, .a, .c], [.a, .c, .a]]
theorem ok9 : okz 1 6 1 tb9 = true := by decide +kernel
def tb10 : List (List L3) := [[], [.a], [.a, .a], [.a, .a, .a], [.a, .a, .a, .a], [.c], [.a, .a, .a, .a, .a], [.a, .c], [.c, .a], [.a, .a, .a, .a, .a, .a]]
theorem ok10 : okz 1 6 4 tb10 = true := by decide +kernel
def tb11 : List (List L3) := [[], [.a], [.a, .a], [.a, .a, .a], [.a, .a, .a, .a], [.a, .a, .a, .a, .a], [.c], [.a, .a, .a, .a, .a, .a], [.a, .c], [.b]]
theorem ok11 : okz 1 6 5 tb11 = true := by decide +kernel
def tb12 : List (List L3) := [[], [.b], [.c], [.b, .b], [.b, .c], [.c, .b], [.c, .c], [.b, .b, .b], [.b, .b, .c], [.b, .c, .b]]
theorem ok12 : okz 4 1 1 tb12 = true := by decide +kernel
def tb13 : List (List L3) := [[], [.c], [.c, .c], [.c, .c, .c], [.a], [.b], [.c, .c, .c, .c], [.a, .c], [.b, .c], [.c, .a]]
theorem ok13 : okz 4 4 1 tb13 = true := by decide +kernel
def tb14 : List (List L3) := [[], [.b], [.c], [.b, .b], [.b, .c], [.c, .b], [.c, .c], [.b, .b, .b], [.b, .b, .c], [.b, .c, .b]]
theorem ok14 : okz 5 1 1 tb14 = true := by decide +kernel
def tb15 : List (List L3) := [[], [.b], [.b, .b], [.b, .b, .b], [.b, .b, .b, .b], [.c], [.a], [.b, .b, .b, .b, .b], [.b, .c], [.c, .b]]
theorem ok15 : okz 5 1 4 tb15 = true := by decide +kernel
def tb16 : List (List L3) := [[], [.b], [.b, .b], [.b, .b, .b], [.b, .b, .b, .b], [.a], [.b, .b, .b, .b, .b], [.c], [.a, .b], [.b, .a]]
theorem ok16 : okz 5 1 5 tb16 = true := by decide +kernel
def tb17 : List (List L3) := [[], [.c], [.c, .c], [.c, .c, .c], [.b], [.c, .c, .c, .c], [.a], [.b, .c], [.c, .b], [.c, .c, .c, .c, .c]]
theorem ok17 : okz 5 4 1 tb17 = true := by decide +kernel
def tb18 : List (List L3) := [[], [.b], [.c], [.a], [.b, .b], [.b, .c], [.c, .b], [.c, .c], [.a, .b], [.a, .c]]
theorem ok18 : okz 5 4 4 tb18 = true := by decide +kernel
def tb19 : List (List L3) := [[], [.c], [.c, .c], [.c, .c, .c], [.c, .c, .c, .c], [.a], [.b], [.c, .c, .c, .c, .c], [.a, .c], [.b, .c]]
theorem ok19 : okz 5 5 1 tb19 = true := by decide +kernel
def tb20 : List (List L3) := [[], [.c], [.a], [.b], [.c, .c], [.a, .c], [.b, .c], [.c, .a], [.c, .b], [.a, .a]]
theorem ok20 : okz 5 5 4 tb20 = true := by decide +kernel
def tb21 : List (List L3) := [[], [.a], [.b], [.c], [.a, .a], [.a, .b], [.a, .c], [.b, .a], [.b, .b], [.b, .c]]
theorem ok21 : okz 5 5 5 tb21 = true := by decide +kernel
def tb22 : List (List L3) := [[], [.a], [.b], [.c], [.a, .a], [.a, .b], [.b, .a], [.b, .b], [.a, .c], [.b, .c]]
theorem ok22 : okz 5 5 6 tb22 = true := by decide +kernel
def tb23 : List (List L3) := [[], [.c], [.c, .c], [.c, .c, .c], [.c, .c, .c, .c], [.a], [.c, .c, .c, .c, .c], [.a, .c], [.b], [.c, .a]]
theorem ok23 : okz 5 6 1 tb23 = true := by decide +kernel
def tb24 : List (List L3) := [[], [.c], [.a], [.b], [.c, .c], [.a, .c], [.c, .a], [.a, .a], [.b, .c], [.c, .b]]
theorem ok24 : okz 5 6 4 tb24 = true := by decide +kernel
def tb25 : List (List L3) := [[], [.a], [.c], [.b], [.a, .a], [.a, .c], [.c, .a], [.c, .c], [.a, .b], [.b, .a]]
theorem ok25 : okz 5 6 5 tb25 = true := by decide +kernel
def tb26 : List (List L3) := [[], [.b], [.c], [.b, .b], [.b, .c], [.c, .b], [.c, .c], [.b, .b, .b], [.b, .b, .c], [.b, .c, .b]]
theorem ok26 : okz 6 1 1 tb26 = true := by decide +kernel
def tb27 : List (List L3) := [[], [.b], [.b, .b], [.b, .b, .b], [.b, .b, .b, .b], [.c], [.b, .b, .b, .b, .b], [.b, .c], [.c, .b], [.a]]
theorem ok27 : okz 6 1 4 tb27 = true := by decide +kernel
def tb28 : List (List L3) := [[], [.c], [.c, .c], [.c, .c, .c], [.b], [.c, .c, .c, .c], [.b, .c], [.c, .b], [.c, .c, .c, .c, .c], [.a]]
theorem ok28 : okz 6 4 1 tb28 = true := by decide +kernel
def tb29 : List (List L3) := [[], [.b], [.c], [.a], [.b, .b], [.b, .c], [.c, .b], [.c, .c], [.a, .b], [.a, .c]]
theorem ok29 : okz 6 4 4 tb29 = true := by decide +kernel
def tb30 : List (List L3) := [[], [.c], [.c, .c], [.c, .c, .c], [.c, .c, .c, .c], [.b], [.c, .c, .c, .c, .c], [.a], [.b, .c], [.c, .b]]
theorem ok30 : okz 6 5 1 tb30 = true := by decide +kernel
def tb31 : List (List L3) := [[], [.c], [.b], [.a], [.c, .c], [.b, .c], [.c, .b], [.a, .c], [.b, .b], [.c, .a]]
theorem ok31 : okz 6 5 4 tb31 = true := by decide +kernel
def tbl : List ((Nat × Nat × Nat) × List (List L3)) := [((1, 1, 1), tb0), ((1, 1, 4), tb1), ((1, 1, 5), tb2), ((1, 1, 6), tb3), ((1, 4, 1), tb4), ((1, 4, 4), tb5), ((1, 5, 1), tb6), ((1, 5, 4), tb7), ((1, 5, 5), tb8), ((1, 6, 1), tb9), ((1, 6, 4), tb10), ((1, 6, 5), tb11), ((4, 1, 1), tb12), ((4, 4, 1), tb13), ((5, 1, 1), tb14), ((5, 1, 4), tb15), ((5, 1, 5), tb16), ((5, 4, 1), tb17), ((5, 4, 4), tb18), ((5, 5, 1), tb19), ((5, 5, 4), tb20), ((5, 5, 5), tb21), ((5, 5, 6), tb22), ((5, 6, 1), tb23), ((5, 6, 4), tb24), ((5, 6, 5), tb25), ((6, 1, 1), tb26), ((6, 1, 4), tb27), ((6, 4, 1), tb28), ((6, 4, 4), tb29), ((6, 5, 1), tb30), ((6, 5, 4), tb31)]
theorem tbl_ok : ∀ q ∈ tbl, okz q.1.1 q.1.2.1 q.1.2.2 q.2 = true := by
  unfold tbl
  exact List.forall_mem_cons.mpr ⟨ok0, List.forall_mem_cons.mpr ⟨ok1, List.forall_mem_cons.mpr ⟨ok2, List.forall_mem_cons.mpr ⟨ok3, List.forall_mem_cons.mpr ⟨ok4, List.forall_mem_cons.mpr ⟨ok5, List.forall_mem_cons.mpr ⟨ok6, List.forall_mem_cons.mpr ⟨ok7, List.forall_mem_cons.mpr ⟨ok8, List.forall_mem_cons.mpr ⟨ok9, List.forall_mem_cons.mpr ⟨ok10, List.forall_mem_cons.mpr ⟨ok11, List.forall_mem_cons.mpr ⟨ok12, List.forall_mem_cons.mpr ⟨ok13, List.forall_mem_cons.mpr ⟨ok14, List.forall_mem_cons.mpr ⟨ok15, List.forall_mem_cons.mpr ⟨ok16, List.forall_mem_cons.mpr ⟨ok17, List.forall_mem_cons.mpr ⟨ok18, List.forall_mem_cons.mpr ⟨ok19, List.forall_mem_cons.mpr ⟨ok20, List.forall_mem_cons.mpr ⟨ok21, List.forall_mem_cons.mpr ⟨ok22, List.forall_mem_cons.mpr ⟨ok23, List.forall_mem_cons.mpr ⟨ok24, List.forall_mem_cons.mpr ⟨ok25, List.forall_mem_cons.mpr ⟨ok26, List.forall_mem_cons.mpr ⟨ok27, List.forall_mem_cons.mpr ⟨ok28, List.forall_mem_cons.mpr ⟨ok29, List.forall_mem_cons.mpr ⟨ok30, List.forall_mem_cons.mpr ⟨ok31, fun q h => (List.not_mem_nil h).elim⟩⟩⟩⟩⟩⟩⟩⟩⟩⟩⟩⟩⟩⟩⟩⟩⟩⟩⟩⟩⟩⟩⟩⟩⟩⟩⟩⟩⟩⟩⟩⟩
end Mine
end

-- P2
section
open PySem PySem.W PyProof.Rows
namespace Mine
set_option linter.unusedVariables false
set_option linter.unusedSimpArgs false
set_option linter.constructorNameAsVariable false
set_option maxRecDepth 100000
set_option maxHeartbeats 4000000

-- the order of the texts
theorem lt_append_left : ∀ (b x y : List Nat), (b ++ x < b ++ y) ↔ x < y
  | [], _, _ => Iff.rfl
  | c :: b, x, y => by
    rw [List.cons_append, List.cons_append, List.cons_lt_cons_iff, lt_append_left b x y]
    constructor
    · rintro (h | h)
      · exact absurd h (Nat.lt_irrefl _)
      · exact h.2
    · exact fun h => .inr ⟨rfl, h⟩
theorem pick_ord {d0 d1 d2 : Nat} (h1 : d0 < d1) (h2 : d1 < d2) (p q : L3) : (L3.pick d0 d1 d2 p < L3.pick d0 d1 d2 q ↔ L3.lt p q = true) ∧ (L3.pick d0 d1 d2 p = L3.pick d0 d1 d2 q ↔ L3.eq p q = true) := by
  cases p <;> cases q <;> simp [L3.pick, L3.lt, L3.eq] <;> omega
theorem ltV_map {d0 d1 d2 : Nat} (h1 : d0 < d1) (h2 : d1 < d2) : ∀ u v : List L3, decide (u.map (L3.pick d0 d1 d2) < v.map (L3.pick d0 d1 d2)) = ltV u v
  | [], [] => by simp [ltV]
  | [], _ :: _ => by simp [ltV]
  | _ :: _, [] => by simp [ltV]
  | p :: x, q :: y => by
    have ih := ltV_map h1 h2 x y
    obtain ⟨o1, o2⟩ := pick_ord h1 h2 p q
    rw [List.map_cons, List.map_cons]
    unfold ltV
    cases he : L3.eq p q with
    | true =>
      rw [he] at o2
      have e := o2.mpr rfl
      rw [cond_true, ← ih]
      refine decide_eq_decide.mpr ?_
      rw [List.cons_lt_cons_iff, e]
      constructor
      · rintro (h | h)
        · exact absurd h (Nat.lt_irrefl _)
        · exact h.2
      · exact fun h => .inr ⟨rfl, h⟩
    | false =>
      rw [he] at o2
      have e : ¬ L3.pick d0 d1 d2 p = L3.pick d0 d1 d2 q := fun h => by have := o2.mp h; cases this
      rw [cond_false]
      have : (L3.pick d0 d1 d2 p :: x.map (L3.pick d0 d1 d2) < L3.pick d0 d1 d2 q :: y.map (L3.pick d0 d1 d2)) ↔ L3.lt p q = true := by
        rw [List.cons_lt_cons_iff, ← o1]
        constructor
        · rintro (h | h)
          · exact h
          · exact absurd h.1 e
        · exact .inl
      cases hl : L3.lt p q with
      | true => rw [hl] at this; exact decide_eq_true (this.mpr rfl)
      | false => rw [hl] at this; exact decide_eq_false fun h => by cases this.mp h
theorem map_pick_inj {d0 d1 d2 : Nat} (h1 : d0 < d1) (h2 : d1 < d2) : ∀ {u v : List L3}, u.map (L3.pick d0 d1 d2) = v.map (L3.pick d0 d1 d2) → u = v
  | [], [], _ => rfl
  | [], _ :: _, h => by cases h
  | _ :: _, [], h => by cases h
  | p :: x, q :: y, h => by
    rw [List.map_cons, List.map_cons] at h
    have e1 := (List.cons.inj h).1
    have e2 := (List.cons.inj h).2
    rw [L3.eq_of ((pick_ord h1 h2 p q).2.mp e1), map_pick_inj h1 h2 e2]
theorem S_inj {x y : List Nat} (h : S x = S y) : x = y := by
  have h1 : (x.toArray : Array Nat) = y.toArray := congrArg Str.cps h
  simpa using congrArg Array.toList h1
theorem wz_len (k d0 d1 d2 : Nat) : ∀ u : List L3, ((u.map (L3.pick d0 d1 d2)).flatMap (imgP k)).length = wz (imgP k d0).length (imgP k d1).length (imgP k d2).length u
  | [] => rfl
  | p :: x => by
    rw [List.map_cons, List.flatMap_cons, List.length_append, wz_len k d0 d1 d2 x]
    have e : wz (imgP k d0).length (imgP k d1).length (imgP k d2).length (p :: x) = L3.pick (imgP k d0).length (imgP k d1).length (imgP k d2).length p + wz (imgP k d0).length (imgP k d1).length (imgP k d2).length x := rfl
    rw [e]
    cases p <;> rfl
theorem entLt_eq (k : Nat) (b : List Nat) {d0 d1 d2 : Nat} (h1 : d0 < d1) (h2 : d1 < d2) (u v : List L3) :
    entLt (entW b (escP k) (u.map (L3.pick d0 d1 d2))) (entW b (escP k) (v.map (L3.pick d0 d1 d2))) = lt3 (imgP k d0).length (imgP k d1).length (imgP k d2).length u v := by
  have n1 : ∀ u : List L3, (escP k (b ++ u.map (L3.pick d0 d1 d2))).length = (escP k b).length + wz (imgP k d0).length (imgP k d1).length (imgP k d2).length u := fun u => by
    rw [escP_append, List.length_append, escP_eq k (u.map _), wz_len]
  have x1 : ∀ l : List Nat, (S l).cps.toList = l := fun l => by simp [S]
  unfold entLt entW lt3
  dsimp only
  rw [n1, n1]
  generalize hA : wz (imgP k d0).length (imgP k d1).length (imgP k d2).length u = wu
  generalize hB : wz (imgP k d0).length (imgP k d1).length (imgP k d2).length v = wv
  by_cases hw : wu = wv
  · subst hw
    rw [beq_self_eq_true, Nat.beq_refl, if_pos rfl, cond_true]
    by_cases huv : u = v
    · subst huv
      rw [beq_self_eq_true, beq_self_eq_true, if_pos rfl, if_pos rfl, ← ltV_map h1 h2 u u]
      exact (decide_eq_false (List.lt_irrefl _)).symm
    · have hx : (S (b ++ u.map (L3.pick d0 d1 d2)) == S (b ++ v.map (L3.pick d0 d1 d2))) = false := by
        rw [beq_eq_false_iff_ne]
        intro h
        exact huv (map_pick_inj h1 h2 (List.append_cancel_left (S_inj h)))
      rw [hx, x1, x1, if_neg (by decide), ← ltV_map h1 h2 u v]
      exact decide_eq_decide.mpr (lt_append_left _ _ _)
  · have hn : ((((escP k b).length + wu : Nat) : Int) == (((escP k b).length + wv : Nat) : Int)) = false := by
      rw [beq_eq_false_iff_ne]
      omega
    have hm : Nat.beq wu wv = false := by
      cases he : Nat.beq wu wv with
      | false => rfl
      | true => exact absurd (Nat.eq_of_beq_eq_true he) hw
    rw [hn, hm, if_neg (by decide), cond_false]
    have : Nat.blt wu wv = decide (wu < wv) := by
      rw [Bool.eq_iff_iff]
      simp
    rw [this]
    refine decide_eq_decide.mpr ?_
    omega
theorem sim_eq (k : Nat) (b : List Nat) {d0 d1 d2 : Nat} (h1 : d0 < d1) (h2 : d1 < d2) (p q r : L3) :
    (simW b (escP k) (L3.pick d0 d1 d2 p) (L3.pick d0 d1 d2 q) (L3.pick d0 d1 d2 r) 10).2 = (sim3 (imgP k d0).length (imgP k d1).length (imgP k d2).length p q r).map (List.map (L3.pick d0 d1 d2)) := by
  have := simG_map (lt := fun u v => entLt (entW b (escP k) u) (entW b (escP k) v)) (k0 := fun u => u ++ [L3.pick d0 d1 d2 p]) (k1 := fun u => u ++ [L3.pick d0 d1 d2 q]) (k2 := fun u => u ++ [L3.pick d0 d1 d2 r])
    (j0 := (· ++ [p])) (j1 := (· ++ [q])) (j2 := (· ++ [r])) (List.map (L3.pick d0 d1 d2)) (fun x => by simp) (fun x => by simp) (fun x => by simp) [] 10
  have e : (fun u v : List L3 => entLt (entW b (escP k) (u.map (L3.pick d0 d1 d2))) (entW b (escP k) (v.map (L3.pick d0 d1 d2)))) = lt3 (imgP k d0).length (imgP k d1).length (imgP k d2).length := by
    funext u v
    exact entLt_eq k b h1 h2 u v
  rw [e, List.map_nil] at this
  unfold simW sim3
  rw [this]

-- what is led, letter by letter
theorem pick_map (C : List Int) (d : L3 → Nat) (im : L3 → List Nat) (left : Nat) : ∀ (ps : List L3) (p : Int), pickP C left (ps.map fun c => (d c, im c)) p = (pickA C (fun c => (im c).length) left ps p).map fun q => (d q.1, im q.1, q.2)
  | [], _ => rfl
  | c :: r, p => by
    rw [List.map_cons]
    unfold pickP pickA
    by_cases h : p < (if (im c).length ≤ left then C.getD (left - (im c).length) 0 else 0)
    · rw [if_pos h, if_pos h]; rfl
    · rw [if_neg h, if_neg h]; exact pick_map C d im left r _
theorem led2_map (C : List Int) (d : L3 → Nat) (im : L3 → List Nat) : ∀ (f left : Nat) (p : Int) (t : List L3),
    led2 C ([L3.a, L3.b, L3.c].map fun c => (d c, im c)) f left p (t.map d) (t.flatMap im) = (led2A C (fun c => (im c).length) f left p t).map fun u => (u.map d, u.flatMap im)
  | 0, left, p, t => by
    unfold led2 led2A
    by_cases h : left = 0
    · rw [if_pos h, if_pos h]; rfl
    · rw [if_neg h, if_neg h]; rfl
  | f + 1, left, p, t => by
    unfold led2 led2A
    by_cases h : left = 0
    · rw [if_pos h, if_pos h]; rfl
    · rw [if_neg h, if_neg h, pick_map]
      cases hp : pickA C (fun c => (im c).length) left [L3.a, L3.b, L3.c] p with
      | none => rfl
      | some q =>
        obtain ⟨c, p'⟩ := q
        dsimp only [Option.map]
        by_cases hc : (im c).length ≤ left
        · rw [if_pos hc, if_pos hc]
          have := led2_map C d im f (left - (im c).length) p' (t ++ [c])
          have e1 : [c].map d = [d c] := rfl
          have e2 : [c].flatMap im = im c := by simp
          rw [List.map_append, List.flatMap_append, e1, e2] at this
          exact this
        · rw [if_neg hc, if_neg hc]
theorem ledP_map (C : List Int) (d : L3 → Nat) (im : L3 → List Nat) (place : Int) :
    ledP C ([L3.a, L3.b, L3.c].map fun c => (d c, im c)) place = (ledA C (fun c => (im c).length) place).map fun u => (u.map d, u.flatMap im) := by
  unfold ledP ledA
  cases led1 C 13 place 0 with
  | none => rfl
  | some q => exact led2_map C d im 13 q.2 q.1 []

-- the signs: three distinct ones of the pool
theorem erase_perm : ∀ (l : List Nat) (j : Nat) (h : j < l.length), (l[j] :: l.eraseIdx j).Perm l
  | x :: l, 0, _ => List.Perm.refl _
  | x :: l, j + 1, h => by
    have hj : j < l.length := Nat.lt_of_succ_lt_succ h
    have ih := erase_perm l j hj
    show (l[j] :: x :: l.eraseIdx j).Perm (x :: l)
    exact (List.Perm.swap _ _ _).trans (ih.cons x)
theorem sgSt_perm (n : Nat) : ∀ i, i ≤ 3 → ((sgSt n i).1 ++ (sgSt n i).2.1).Perm pool
  | 0, _ => by
    show (pool ++ []).Perm pool
    rw [List.append_nil]
  | i + 1, h => by
    have ih := sgSt_perm n i (by omega)
    have hl := sgSt_length n i (by omega)
    unfold sgSt sgStep
    dsimp only
    have hj : (sgSt n i).2.2 % (sgSt n i).1.length < (sgSt n i).1.length := Nat.mod_lt _ (by omega)
    refine List.Perm.trans ?_ ih
    generalize (sgSt n i).2.2 % (sgSt n i).1.length = j at hj
    generalize (sgSt n i).1 = l at hj
    generalize (sgSt n i).2.1 = o
    have e : l.getD j 0 = l[j] := by simp [hj]
    rw [e]
    have p1 : (l.eraseIdx j ++ (o ++ [l[j]])).Perm (l[j] :: (l.eraseIdx j ++ o)) := by
      rw [← List.append_assoc]
      exact List.perm_append_singleton _ _
    refine p1.trans ?_
    rw [← List.cons_append]
    exact List.Perm.append_right _ (erase_perm l j hj)
theorem signs_ok (n : Nat) : (signsP n).Nodup ∧ ∀ c ∈ signsP n, c ∈ pool := by
  have h := sgSt_perm n 3 (Nat.le_refl _)
  have hn : pool.Nodup := by decide
  have h2 := h.nodup_iff.mpr hn
  exact ⟨(List.nodup_append.mp h2).2.1, fun c hc => h.mem_iff.mp (List.mem_append_right _ hc)⟩
def hasZ (z0 z1 z2 : Nat) : Bool := tbl.any fun q => Nat.beq q.1.1 z0 && (Nat.beq q.1.2.1 z1 && Nat.beq q.1.2.2 z2)
theorem hasZ_of {z0 z1 z2 : Nat} (h : hasZ z0 z1 z2 = true) : ∃ L, okz z0 z1 z2 L = true := by
  obtain ⟨q, hq, hz⟩ := List.any_eq_true.mp h
  rw [Bool.and_eq_true, Bool.and_eq_true] at hz
  have ok := tbl_ok q hq
  rw [Nat.eq_of_beq_eq_true hz.1, Nat.eq_of_beq_eq_true hz.2.1, Nat.eq_of_beq_eq_true hz.2.2] at ok
  exact ⟨_, ok⟩
theorem hasZ_all : (List.range 5).all (fun k => pool.all fun x => pool.all fun y => !Nat.blt x y || pool.all fun z => !Nat.blt y z || hasZ (imgP k x).length (imgP k y).length (imgP k z).length) = true := by decide +kernel
theorem perm6 {c0 c1 c2 d0 d1 d2 : Nat} (hp : [d0, d1, d2].Perm [c0, c1, c2]) (hn : [c0, c1, c2].Nodup) (P : L3 → L3 → L3 → Prop)
    (h1 : P .a .b .c) (h2 : P .a .c .b) (h3 : P .b .a .c) (h4 : P .b .c .a) (h5 : P .c .a .b) (h6 : P .c .b .a) :
    ∃ p q r : L3, c0 = L3.pick d0 d1 d2 p ∧ c1 = L3.pick d0 d1 d2 q ∧ c2 = L3.pick d0 d1 d2 r ∧ P p q r := by
  have m0 : c0 ∈ [d0, d1, d2] := hp.mem_iff.mpr (by simp)
  have m1 : c1 ∈ [d0, d1, d2] := hp.mem_iff.mpr (by simp)
  have m2 : c2 ∈ [d0, d1, d2] := hp.mem_iff.mpr (by simp)
  simp only [List.mem_cons, List.not_mem_nil, or_false] at m0 m1 m2
  simp only [List.nodup_cons, List.mem_cons, List.not_mem_nil, or_false, not_or] at hn
  obtain ⟨⟨n01, n02⟩, n12, _⟩ := hn
  rcases m0 with e0 | e0 | e0 <;> rcases m1 with e1 | e1 | e1 <;> rcases m2 with e2 | e2 | e2 <;>
    first
    | exact absurd (e0.trans e1.symm) n01
    | exact absurd (e0.trans e2.symm) n02
    | exact absurd (e1.trans e2.symm) n12
    | exact ⟨.a, .b, .c, e0, e1, e2, h1⟩
    | exact ⟨.a, .c, .b, e0, e1, e2, h2⟩
    | exact ⟨.b, .a, .c, e0, e1, e2, h3⟩
    | exact ⟨.b, .c, .a, e0, e1, e2, h4⟩
    | exact ⟨.c, .a, .b, e0, e1, e2, h5⟩
    | exact ⟨.c, .b, .a, e0, e1, e2, h6⟩

/-- what is meant, of a text with its writing -/
def entR (b ah : List Nat) (r : List Nat × List Nat) : Ent := ⟨((ah ++ r.2).length : Int), S (b ++ r.1), S (ah ++ r.2)⟩

theorem pure_law {k n1 : Nat} {b : List Nat} {c0 c1 c2 d0 d1 d2 : Nat} (hk : k < 5) (hs : signsP n1 = [c0, c1, c2]) (hp : [d0, d1, d2].Perm [c0, c1, c2]) (hw : [d0, d1, d2].Pairwise (· ≤ ·)) :
    ∃ R : List (List Nat × List Nat), R.length = 10 ∧
      (∀ (i : Nat) r, R[i]? = some r → ledP (cnt [(imgP k d0).length, (imgP k d1).length, (imgP k d2).length] 12) [(d0, imgP k d0), (d1, imgP k d1), (d2, imgP k d2)] (i : Int) = some r ∧ r.1.length ≤ 10 ∧ r.2.length ≤ 60) ∧
      (simW b (escP k) c0 c1 c2 10).2.map (entW b (escP k)) = R.map (entR b (b.map (imgP k)).flatten) := by
  have hn := (signs_ok n1).1
  have hin := (signs_ok n1).2
  rw [hs] at hn hin
  have hdn : [d0, d1, d2].Nodup := hp.nodup_iff.mpr hn
  have hdp : ∀ c ∈ [d0, d1, d2], c ∈ pool := fun c hc => hin c (hp.mem_iff.mp hc)
  have h01 : d0 < d1 := by
    simp only [List.nodup_cons, List.mem_cons, List.not_mem_nil, or_false, not_or] at hdn
    have := (List.pairwise_cons.mp hw).1 d1 (by simp)
    exact Nat.lt_of_le_of_ne this hdn.1.1
  have h12 : d1 < d2 := by
    simp only [List.nodup_cons, List.mem_cons, List.not_mem_nil, or_false, not_or] at hdn
    have := (List.pairwise_cons.mp (List.pairwise_cons.mp hw).2).1 d2 (by simp)
    exact Nat.lt_of_le_of_ne this hdn.2.1
  have hz : hasZ (imgP k d0).length (imgP k d1).length (imgP k d2).length = true := by
    have a1 := List.all_eq_true.mp hasZ_all k (List.mem_range.mpr hk)
    have a2 := List.all_eq_true.mp a1 d0 (hdp d0 (by simp))
    have a3 := List.all_eq_true.mp a2 d1 (hdp d1 (by simp))
    have b1 : Nat.blt d0 d1 = true := by simpa using h01
    have b2 : Nat.blt d1 d2 = true := by simpa using h12
    rw [b1, Bool.not_true, Bool.false_or] at a3
    have a4 := List.all_eq_true.mp a3 d2 (hdp d2 (by simp))
    rw [b2, Bool.not_true, Bool.false_or] at a4
    exact a4
  obtain ⟨L, ok⟩ := hasZ_of hz
  unfold okz at ok
  simp only [Bool.and_eq_true] at ok
  obtain ⟨k1, k2, k3, k4, k5, k6, kL⟩ := ok
  obtain ⟨p, q, r, e0, e1, e2, hsim⟩ := perm6 hp hn (fun p q r => sim3 (imgP k d0).length (imgP k d1).length (imgP k d2).length p q r = L) (eqVV_of k1) (eqVV_of k2) (eqVV_of k3) (eqVV_of k4) (eqVV_of k5) (eqVV_of k6)
  subst e0 e1 e2
  refine ⟨L.map fun u => (u.map (L3.pick d0 d1 d2), u.flatMap fun c => imgP k (L3.pick d0 d1 d2 c)), ?_, ?_, ?_⟩
  · rw [List.length_map, ← hsim]
    exact (simG_length ..).2
  · intro i r' hr
    rw [List.getElem?_map] at hr
    obtain ⟨u, hu, rfl⟩ : ∃ u, L[i]? = some u ∧ (u.map (L3.pick d0 d1 d2), u.flatMap fun c => imgP k (L3.pick d0 d1 d2 c)) = r' := by
      cases hu : L[i]? with
      | none => rw [hu] at hr; cases hr
      | some u => rw [hu] at hr; exact ⟨u, rfl, Option.some.inj hr⟩
    have hul : u.length ≤ 10 := by
      have := (simG_all (lt := lt3 (imgP k d0).length (imgP k d1).length (imgP k d2).length) (k0 := (· ++ [p])) (k1 := (· ++ [q])) (k2 := (· ++ [r])) (s0 := []) (fun n x => x.length ≤ n) (fun n x h => by omega) (by simp) (fun n x h => by simp; omega) (fun n x h => by simp; omega) (fun n x h => by simp; omega) 10).2
      refine this u ?_
      have hm := List.mem_of_getElem? hu
      rw [← hsim] at hm
      exact hm
    refine ⟨?_, by simpa using hul, ?_⟩
    · have h1 := ledP_map (cnt [(imgP k d0).length, (imgP k d1).length, (imgP k d2).length] 12) (L3.pick d0 d1 d2) (fun c => imgP k (L3.pick d0 d1 d2 c)) (i : Int)
      have h2 := ledChk_of kL i u hu
      rw [Nat.zero_add] at h2
      have hz : (fun c : L3 => (imgP k (L3.pick d0 d1 d2 c)).length) = L3.pick (imgP k d0).length (imgP k d1).length (imgP k d2).length := by
        funext c
        cases c <;> rfl
      rw [hz, h2] at h1
      exact h1
    · have : ∀ u : List L3, (u.flatMap fun c => imgP k (L3.pick d0 d1 d2 c)).length ≤ 6 * u.length := by
        intro u
        induction u with
        | nil => exact Nat.le_refl _
        | cons c x ih =>
          have := (imgP_len k (L3.pick d0 d1 d2 c)).2
          rw [List.flatMap_cons, List.length_append, List.length_cons]
          omega
      have := this u
      dsimp only
      omega
  · rw [sim_eq k b h01 h12, hsim, List.map_map, List.map_map]
    refine List.map_congr_left fun u _ => ?_
    have ef : (u.map (L3.pick d0 d1 d2)).flatMap (imgP k) = u.flatMap fun c => imgP k (L3.pick d0 d1 d2 c) := by
      rw [List.flatMap_map]
    have eb : (b.map (imgP k)).flatten = b.flatMap (imgP k) := by rw [List.flatMap_def]
    show entW b (escP k) (u.map _) = entR b _ (_, _)
    unfold entW entR
    dsimp only
    rw [eb, escP_append, escP_eq k b, escP_eq k (u.map _), ef]
end Mine
end

-- A1
section
open PySem PySem.W PyProof.Rows PyProof.V PySem.Spec
namespace Mine
set_option linter.unusedVariables false
set_option linter.unusedSimpArgs false
set_option maxRecDepth 100000
set_option maxHeartbeats 8000000

local macro_rules | `(tactic| ktr_unf) => `(tactic| repeat' (
  (fail_if_success (with_reducible show wpAny _ _ (exec (Stmt.For _ _ _ _ _) _) _ _ _));
  (fail_if_success (with_reducible show wpAny _ _ (pyIter (Value.ref _)) _ _ _));
  (fail_if_success (with_reducible show wpAny _ _ (exec (Stmt.Assign _ (Expr.ListComp _ _ _ _) _) _) _ _ _));
  (fail_if_success (with_reducible show wpAny _ _ (eval (Expr.ListComp _ _ _ _) _) _ _ _));
  (fail_if_success (with_reducible show wpAny _ _ (storeName (Str.ofString "images") _ _) _ _ _));
  (fail_if_success (with_reducible show wpAny _ _ (call (Value.builtin _) _ _) _ _ _));
  (fail_if_success (with_reducible show wpAny _ _ (callWith _ (Value.ref _) _ _ _) _ _ _));
  (fail_if_success (with_reducible show wpAny _ _ (subscriptTail _ _ (Value.ref _) (Value.int _ _)) _ _ _));
  (fail_if_success (with_reducible show wpAny _ _ (call (Value.ref _) _ _) _ _ _));
  (fail_if_success (with_reducible show wpAny _ _ (compareOp CmpOp.Eq (Value.ref _) (Value.ref _)) _ _ _));
  (fail_if_success (with_reducible show wpAny _ _ (binaryOp Operator.Add (Value.str _ _) (Value.str _ _)) _ _ _));
  (fail_if_success (with_reducible show TbEnd _ _ _ _ _ _));
  first | (k_unfold; (try dsimp only)) | walk1 | (dsimp only; walk1) | (leave1; walk_say "STEP leave1"; try dsimp only) | fail "no step"))

-- a def whose names lie in cells, entered
local macro_rules | `(tactic| ktn_open) => `(tactic| (refine' code_defC ?k1 ?k2 ?k3 ?k4 ?k5 ?kA ?kF ?kK ?k6 ?k7 ?k8 ?k9 ?kB ?kD ?_ ?c2 ?c3 ?c4; (case kA => exact rfl); (case kF => exact rfl); (case kK => assumption); (case k1 => k_asm); (case k2 => k_asm); (case k3 => k_asm); (case k4 => k_asm); (case k5 => k_asm); (case k6 => k_is); (case k7 => k_is); (case k8 => ktr_room); (case k9 => exact BindsTo.of_eq rfl); (case kB => exact rfl); (case kD => decide +kernel); (case c2 => exact rfl); (case c3 => exact rfl); (case c4 => exact rfl); k_whole; intro g' L' h' tk' cells' FG' F' N' Y' B' X' T' l1; (try k_lt l1); k_cells Y'; (try simp only [List.cons_append, List.nil_append] at N'); (try dsimp only); (try k_fold)))

def escA : Nat → Addr
  | 0 => 56
  | 1 => 63
  | 2 => 70
  | 3 => 77
  | _ => 84
theorem escA_ok {w : World} {mean : ExcName → Option Value} {mg mb : Str → Option Value} : ∀ {k : Nat}, k < 5 → WriteOk w mean mg mb (escA k) (escP k)
  | 0, _ => fun B F X N T hk hl hdp hun ret => esc0_c B F X N T hk hl hdp hun ret
  | 1, _ => fun B F X N T hk hl hdp hun ret => esc1_c B F X N T hk hl hdp hun ret
  | 2, _ => fun B F X N T hk hl hdp hun ret => esc2_c B F X N T hk hl hdp hun ret
  | 3, _ => fun B F X N T hk hl hdp hun ret => esc3_c B F X N T hk hl hdp hun ret
  | 4, _ => fun B F X N T hk hl hdp hun ret => esc4_c B F X N T hk hl hdp hun ret
  | _ + 5, h => absurd h (by omega)
theorem escA_keep {w : World} : ∀ {k : Nat}, k < 5 → keepIn (hd.heap_39 w.params) (.ref (escA k)) = true
  | 0, _ => by show keepIn (hd.heap_39 w.params) (.ref 56) = true; k_is
  | 1, _ => by show keepIn (hd.heap_39 w.params) (.ref 63) = true; k_is
  | 2, _ => by show keepIn (hd.heap_39 w.params) (.ref 70) = true; k_is
  | 3, _ => by show keepIn (hd.heap_39 w.params) (.ref 77) = true; k_is
  | 4, _ => by show keepIn (hd.heap_39 w.params) (.ref 84) = true; k_is
  | _ + 5, h => absurd h (by omega)
theorem escA_get : ∀ {k : Nat}, k < 5 → [Value.ref 56, .ref 63, .ref 70, .ref 77, .ref 84][k]? = some (.ref (escA k))
  | 0, _ => rfl
  | 1, _ => rfl
  | 2, _ => rfl
  | 3, _ => rfl
  | 4, _ => rfl
  | _ + 5, h => absurd h (by omega)

theorem tab_value : ∀ {kvs : List (Str × Value)} {l : List (Nat × List Nat)} (c : Nat), FlatPairs PyData.str kvs (l.map fun p => (PyData.str (S [p.1]), PyData.str (S p.2))) → ∀ t, ∃ t', (valueAt kvs (S [c])).getD (.str (S [c]) t) = .str (S ((l.lookup c).getD [c])) t' := by
  intro kvs l
  induction l generalizing kvs with
  | nil => intro c h t; cases h; exact ⟨t, rfl⟩
  | cons p r ih =>
    intro c h t
    obtain ⟨a, z⟩ := p
    rw [List.map_cons] at h
    generalize hk : (PyData.str (S [a]), PyData.str (S z)) = q at h
    cases h with
    | cons f g =>
      rename_i k0 v0 d0 kvs0
      have e1 : S [a] = k0 := PyData.str.inj (congrArg Prod.fst hk)
      have e2 : PyData.str (S z) = d0 := congrArg Prod.snd hk
      subst e1 e2
      obtain ⟨tv, rfl⟩ := f.str_inv
      by_cases hac : a = c
      · subst hac
        refine ⟨tv, ?_⟩
        simp [valueAt, List.lookup]
      · have h1 : ¬ S [a] = S [c] := fun e => hac (S1_inj e)
        have h2 : (c == a) = false := by simpa using Ne.symm hac
        obtain ⟨t', ht'⟩ := ih c g t
        refine ⟨t', ?_⟩
        have e3 : valueAt ((S [a], Value.str (S z) tv) :: kvs0) (S [c]) = valueAt kvs0 (S [c]) := by
          unfold valueAt
          rw [List.find?_cons_of_neg (by simpa using h1)]
        rw [e3, ht', List.lookup_cons, h2]

theorem CodesAre.get : ∀ {vs : List Value} {cs : List Nat} {j : Nat} {v : Value}, CodesAre vs cs → vs[j]? = some v → ∃ c u, v = .str (S [c]) u ∧ cs[j]? = some c
  | _ :: _, _ :: _, 0, _, ⟨⟨t, e⟩, _⟩, h => ⟨_, t, by rw [← e]; exact (Option.some.inj h).symm, rfl⟩
  | _ :: _, _ :: _, j + 1, _, ⟨_, r⟩, h => CodesAre.get (j := j) r h
  | [], [], _, _, _, h => by rw [List.getElem?_nil] at h; cases h
  | [], _ :: _, _, _, h, _ => h.elim
  | _ :: _, [], _, _, h, _ => h.elim
def PairsAt (k : Nat) (cs : List Nat) (ts : List Addr) (own : List (Addr × Obj)) : Prop :=
  ∀ (i : Nat) (t : Addr), ts[i]? = some t → ∃ (c : Nat) (t1 t2 : Tok) (nt : Nat), cs[i]? = some c ∧ (t, pairObj (.str (S [c]) t1) (.str (S (imgP k c)) t2) nt) ∈ own
theorem PairsAt.nil {k : Nat} {cs : List Nat} {own : List (Addr × Obj)} : PairsAt k cs [] own := fun i t h => by rw [List.getElem?_nil] at h; cases h

theorem PairsAt.snoc {k : Nat} {cs : List Nat} {ts : List Addr} {own : List (Addr × Obj)} {j c : Nat} {T : Addr} {t1 t2 : Tok} {nt : Nat} (h : PairsAt k cs ts own) (hj : ts.length = j) (hc : cs[j]? = some c) : PairsAt k cs (ts ++ [T]) ((T, pairObj (.str (S [c]) t1) (.str (S (imgP k c)) t2) nt) :: own) := by
  intro i t hi
  by_cases hlt : i < ts.length
  · rw [List.getElem?_append_left hlt] at hi
    obtain ⟨c', a1, a2, a3, a4, a5⟩ := h i t hi
    exact ⟨c', a1, a2, a3, a4, .tail _ a5⟩
  · have hij : i = ts.length := by
      have := (List.getElem?_eq_some_iff.mp hi).1
      simp at this
      omega
    subst hij
    rw [List.getElem?_append_right (Nat.le_refl _), Nat.sub_self] at hi
    cases Option.some.inj hi
    exact ⟨c, t1, t2, nt, by rw [hj]; exact hc, .head _⟩

section
open PySem.Calls PySem.Spec PyProof.Rows.LCg PyProof.Rows.LCp
variable {prog : Program} {w : World} {A : Around} {s : Shared} {h₀ : Heap} {L : Addr} {m : Str → Option Value} {env : Env} {elt : Expr} {x x₂ : Str} {scope : Scope} {cl : List (Str × Addr)} {Sr : List (Addr × Obj) → Prop} {P : Nat → Value → Prop} {Fin : List Value → List (Addr × Obj) → Prop} {n : Nat}
/-- a comprehension over pairs by what holds of what it has gathered -/
theorem compP_fold (R : Nat → List Value → List (Addr × Obj) → Prop) (hfin : ∀ ys nw, R n ys nw → Fin ys nw)
    (step : ∀ i ys nw, i < n → R i ys nw → ∀ v, P i v → ∃ (t : Addr) (ot : Obj) (v₁ v₂ : Value) (nt : Nat), v = .ref t ∧ (t, ot) ∈ nw ∧ ot.cls = .type "tuple" ∧ ot.data = .seq #[v₁, v₂] nt ∧
      ∀ I oI C oC D m₂ h tk (E' : Value → Shared → Prop), NsObj oC m₂ → m₂ x = some v₁ → m₂ x₂ = some v₂ → Fr h₀ L h m → News h₀ L h ((I, oI) :: (C, oC) :: (D, lst ys) :: nw) → Off3 I C D nw → ((@Ne Nat I C) ∧ (@Ne Nat I D) ∧ (@Ne Nat C D)) →
      wpAny (model prog w) A (eval elt (compEnvC scope cl C env)) (CompEnd h₀ L m { s with heap := h, toks := tk } I oI C oC D (lst ys) Sr (fun y news' => R (i + 1) (ys ++ [y]) news')) E' { s with heap := h, toks := tk }) :
    ∀ k i ys nw, i + k = n → R i ys nw → CompRestP prog w A h₀ L m env elt x x₂ scope cl s Sr P Fin k i ys nw
  | 0, i, ys, nw, e, r => by
    have : i = n := by omega
    subst this
    exact hfin ys nw r
  | k + 1, i, ys, nw, e, r => by
    refine CompRestP.succ fun v hP => ?_
    obtain ⟨t, ot, v₁, v₂, nt, e1, e2, e3, e4, H⟩ := step i ys nw (by omega) r v hP
    refine ⟨t, ot, v₁, v₂, nt, e1, e2, e3, e4, fun I oI C oC D m₂ h tk E' ho hx hx2 F N off hne => ?_⟩
    refine wpAny_mono (H I oI C oC D m₂ h tk E' ho hx hx2 F N off hne) (fun y s' hy => ?_) fun _ _ e => e
    exact compEnd_mono hy fun nw' _ r' => compP_fold R hfin step k (i + 1) (ys ++ [y]) nw' (by omega) r'
end

theorem ents_snoc {b ah : List Nat} {R : List (List Nat × List Nat)} {ms : List Addr} {rest : List (Addr × Obj)} {i : Nat} {l9 : Addr} {o9 : Obj} {r : List Nat × List Nat}
    (hms : ∀ (j : Nat) (a : Addr), ms[j]? = some a → ∃ r, R[j]? = some r ∧ EntIn rest a (entR b ah r)) (hml : ms.length = i) (hr : R[i]? = some r) (h9 : EntIn ((l9, o9) :: rest) l9 (entR b ah r)) :
    ∀ (j : Nat) (a : Addr), (ms ++ [l9])[j]? = some a → ∃ r, R[j]? = some r ∧ EntIn ((l9, o9) :: rest) a (entR b ah r) := by
  intro j a hj
  by_cases hjk : j < ms.length
  · rw [List.getElem?_append_left hjk] at hj
    obtain ⟨r', h1, h2⟩ := hms j a hj
    exact ⟨r', h1, EntIn.tail h2⟩
  · have hj' : j = ms.length := by
      have := (List.getElem?_eq_some_iff.mp hj).1
      simp at this
      omega
    subst hj'
    rw [List.getElem?_append_right (Nat.le_refl _), Nat.sub_self] at hj
    have : l9 = a := Option.some.inj hj
    subst this
    exact ⟨r, by rw [hml]; exact hr, h9⟩

theorem ents_eq {prog : Program} {w : World} {A : Around} {E : Value → Shared → Prop} {s : Shared} {h₀ : Heap} {L : Addr} {news : List (Addr × Obj)} {tl mt : Addr} {tas ms : List Addr} {n1 n2 : Nat} {D : Nat → Ent} {Q : Value → Shared → Prop}
    (N : News h₀ L s.heap news) (h1 : (tl, listOf (refs tas).toArray n1) ∈ news) (h2 : (mt, listOf (refs ms).toArray n2) ∈ news) (hl : tas.length = ms.length)
    (e1 : ∀ (j : Nat) (a : Addr), tas[j]? = some a → EntIn news a (D j)) (e2 : ∀ (j : Nat) (a : Addr), ms[j]? = some a → EntIn news a (D j)) (hu : A.units + 3 < cLine) (h : Q (.bool true) s) :
    wpAny (model prog w) A (compareOp .Eq (.ref tl) (.ref mt)) Q E s := by
  refine cmp_ofEq ?_
  have l1 : s.heap.IsList tl _ := PySem.IsL.isList (n := n1) (N _ h1).1
  have l2 : s.heap.IsList mt _ := PySem.IsL.isList (n := n2) (N _ h2).1
  have hz : (refs tas).toArray.size = (refs ms).toArray.size := by rw [List.size_toArray, List.size_toArray, List.length_map, List.length_map, hl]
  have key := SeqAt.RcAt.lists (A := A) (e := fun _ => true) l1 l2 hz (by omega) (by
    intro j h3 h4
    rw [List.size_toArray, List.length_map] at h3 h4
    have g1 : (refs tas).toArray[j] = .ref tas[j] := by simp
    have g2 : (refs ms).toArray[j] = .ref ms[j] := by simp
    rw [g1, g2]
    obtain ⟨t1, t2, t3, q, m1⟩ := e1 j tas[j] (List.getElem?_eq_getElem h3)
    obtain ⟨u1, u2, u3, q', m2⟩ := e2 j ms[j] (List.getElem?_eq_getElem h4)
    by_cases hab : tas[j] = ms[j]
    · rw [hab]; exact SeqAt.EqAt.same _
    · refine SeqAt.EqAt.of_refs hab ?_
      have k1 : s.heap.IsList tas[j] _ := PySem.IsL.isList (n := q) (N _ m1).1
      have k2 : s.heap.IsList ms[j] _ := PySem.IsL.isList (n := q') (N _ m2).1
      have := SeqAt.RcAt.lists (A := A.in1) (e := fun _ => true) k1 k2 rfl (by show A.in1.units < cLine; rw [units_in1]; omega) (by
        intro i h5 h6
        match i, h5, h6 with
        | 0, _, _ => have z := SeqAt.EqAt.int_int (A := A.in1.in1) (s := s) (D j).n t1 (D j).n u1; rw [beq_self_eq_true] at z; exact z
        | 1, _, _ => have z := SeqAt.EqAt.str_str (A := A.in1.in1) (s := s) (D j).x t2 (D j).x u2; rw [beq_self_eq_true] at z; exact z
        | 2, _, _ => have z := SeqAt.EqAt.str_str (A := A.in1.in1) (s := s) (D j).y t3 (D j).y u3; rw [beq_self_eq_true] at z; exact z)
      exact this)
  have all : ∀ n : Nat, (List.range n).all (fun _ => true) = true := fun n => by simp
  rw [all] at key
  exact key prog w E Q h

structure Held (p : Prop) : Prop where
  of : p
/-- between two turns of what is meant -/
def AJ (f sg pr ct : Addr) (b ah : List Nat) (tb ta : Tok) (NW : List (Addr × Obj)) (R : List (List Nat × List Nat)) (i : Nat) (m : Str → Option Value) (nx : List (Addr × Obj)) : Prop :=
  ∃ (mt : Addr) (ms : List Addr) (rest : List (Addr × Obj)) (nm : Nat) (u : Str → Option Value),
    nx = (mt, listOf (refs ms).toArray nm) :: rest ∧
    m = kstB u [(Str.ofString "write", .ref f), (Str.ofString "signs", .ref sg), (Str.ofString "base", .str (S b) tb), (Str.ofString "ahead", .str (S ah) ta), (Str.ofString "pairs", .ref pr), (Str.ofString "counts", .ref ct), (Str.ofString "meant", .ref mt)] ∧
    (∀ p ∈ rest, p.1 ≠ mt) ∧ (∀ p ∈ NW, p ∈ rest) ∧ ms.length = i ∧
    (∀ (j : Nat) (a : Addr), ms[j]? = some a → ∃ r, R[j]? = some r ∧ EntIn rest a (entR b ah r))

theorem agree_c {w : World} {mean : ExcName → Option Value} {mg mb : Str → Option Value} {dp un : Nat} {gd : Option (List Code)} {cn : Str} {cs : Scope} {a : Addr} {ccd : Value} {cl : List (Str × Addr)} {outer : List Env} {A₀ : Around} {base h₀ : Heap} {L : Addr} {m : Str → Option Value} {s : Shared} {Q E : Value → Shared → Prop}
   {news : List (Addr × Obj)} {nb : Addr} {n0 n1 n2 n3 n4 n5 : Nat} {t0 t1 t2 t3 t4 t5 : Tok} {nn : Nat}
   (B : Below A₀ base outer h₀) (F : Fr h₀ L s.heap m) (X : (hd.heap_39 w.params).In h₀) (N : News h₀ L s.heap news)
   (T : Top hd.view_39 (looseW hd.view_39 []) mean mg mb h₀) (hk : cs.kind = .function)
   (hnb : (nb, listOf [.int (n0 : Nat) t0, .int (n1 : Nat) t1, .int (n2 : Nat) t2, .int (n3 : Nat) t3, .int (n4 : Nat) t4, .int (n5 : Nat) t5].toArray nn) ∈ news)
   (hn0 : n0 < 1000000) (hn1 : n1 < 1000000) (hn2 : n2 < 1000000) (hn3 : n3 < 1000000) (hn4 : n4 < 1000000) (hn5 : n5 < 1000000)
   (hdp : dp + 10 < recursionLimit) (hun : un + 100 < cLine)
   (ret : ∀ h' tk', Fr h₀ L h' m → News h₀ L h' news → Q (.bool true) { s with heap := h', toks := tk' }) :
   wpAny (model Challenge.rw_mr0207_01.row.prog w) (ktrTop dp un gd cn cs L a ccd cl outer) (call (.ref 129) [.ref nb]) Q E s := by
  refine wpAny_call ?_
  k_dflt ktn_open
  ktr_unf
  rename_i gg LL hh tk0 FG FF BB XX TT lL oc dC NN
  dsimp only
  refine item_any (v := .int (n0 : Nat) t0) NN (.tail _ hnb) (by omega) (by omega) rfl ?_ (by with_unfolding_all rfl)
  ktr_unf
  have ek : ((n0 : Nat) : Int).fmod 5 = ((n0 % 5 : Nat) : Int) := by
    rw [Int.fmod_eq_emod_of_nonneg _ (by omega)]; exact (Int.natCast_emod _ _).symm
  obtain ⟨k, hkk, hk5⟩ : ∃ k, k = n0 % 5 ∧ k < 5 := ⟨_, rfl, Nat.mod_lt _ (by omega)⟩
  rename Fr _ _ _ _ => F1
  rw [ek, ← hkk] at F1
  refine callWith_K (by assumption) (by k_is) ?_
  ktr_unf
  refine images_c (k := k) (by assumption) (by assumption) (by assumption) (by assumption) (by assumption) rfl hk5 (by show dp + 1 + 3 < _; omega) (by show un + 3 + 40 < _; omega) ?_
  intro h2 tk2 d od kvs F2 N2 ld lod hdd hff
  ktr_unf
  dsimp only
  have ldc : LL + 1 < d := ld _ (.head _)
  refine storeX_C (c := LL + 1) F2 N2 rfl (UpdF.tail (Nat.ne_of_gt ldc) (UpdF.head (fun p hp => Nat.ne_of_lt (Nat.lt_succ_of_lt (lL p hp))))) dC ?_
  intro h3 o3 F3 N3 d3
  ktr_unf
  rename News _ _ _ _ => N4
  rename_i tu h4 lt4 F4
  have hT : IsTup h4 tu [Value.ref 56, .ref 63, .ref 70, .ref 77, .ref 84].toArray := ⟨_, (N4 _ (.head _)).1, rfl, _, rfl⟩
  dsimp only
  with_reducible refine item_tupleT (j := k) hT ?i1 ?i2 ?i3 (escA_get hk5) ?_ ?i4
  case i1 => omega
  case i2 => omega
  case i3 => exact seqIndex_nat (by simpa using hk5)
  case i4 => with_unfolding_all rfl
  ktr_unf
  refine callWith_K (by assumption) (by k_is) ?_
  ktr_unf
  rename Fr _ _ _ _ => F5
  rename News _ _ _ _ => N5
  refine item_any (v := .int (n1 : Nat) t1) N5 (.tail _ (.tail _ (.tail _ hnb))) (by omega) (by omega) rfl ?_ (by with_unfolding_all rfl)
  ktr_unf
  have N6 := cb_drop (news := (LL + 1, o3) :: (d, od) :: news) N5 (by
    refine List.forall_mem_cons.mpr ⟨.tail _ (.tail _ (.head _)), List.forall_mem_cons.mpr ⟨.tail _ (.head _), fun p h => .tail _ (.tail _ (.tail _ h))⟩⟩)
  clear N5
  refine signs_c (n := n1) (by assumption) (by assumption) (by assumption) (by assumption) (by assumption) rfl hn1 (by show dp + 1 + 3 < _; omega) (by show un + 3 + 40 < _; omega) ?_
  intro h7 tk7 sg sv n7 F7 N7 hsv lsg
  ktr_unf
  rename Fr _ _ _ _ => F8
  rename News _ _ _ _ => N8
  dsimp only
  with_reducible refine LCg.ListComp_U (cl := []) F8 ?j1 ?j2 ?j3 ?j4 ?j5 ?_ ?j6
  case j1 => with_unfolding_all rfl
  case j2 => decide
  case j3 => rfl
  case j4 => decide
  case j5 => rfl
  case j6 => intro _; rfl
  ktr_unf
  dsimp only
  have hm8 : (nb, listOf [.int (n0 : Nat) t0, .int (n1 : Nat) t1, .int (n2 : Nat) t2, .int (n3 : Nat) t3, .int (n4 : Nat) t4, .int (n5 : Nat) t5].toArray nn) ∈ (sg, listOf sv.toArray n7) :: (LL + 1, o3) :: (d, od) :: news := .tail _ (.tail _ (.tail _ hnb))
  refine' kmk_slice_lit (s := { s with heap := _, toks := _ }) (zs := [.int (n2 : Nat) t2, .int (n3 : Nat) t3, .int (n4 : Nat) t4, .int (n5 : Nat) t5]) F8 N8 (PySem.IsL.isList (n := nn) (N8 _ hm8).1) ?slP ?slQ ?slE ?_ ?slS ?slT ?slZ
  case slP => kmk_part
  case slQ => kmk_part
  case slE => with_unfolding_all rfl
  case slS => with_unfolding_all rfl
  case slT => kmk_pure
  case slZ => show 6 ≤ 2 ^ 24; omega
  intro D9 h9 F9 N9 l9
  dsimp only
  refine LCg.CompSrc.ledger rfl F9 N9 (k := 0) (its := [.int (n2 : Nat) t2, .int (n3 : Nat) t3, .int (n4 : Nat) t4, .int (n5 : Nat) t5].toArray) (.head _) (by show 4 ≤ 2 ^ 24; omega) ?_
  intro g9
  obtain ⟨ns, hns⟩ : ∃ ns : List Nat, ns = [n2, n3, n4, n5] := ⟨_, rfl⟩
  refine compU_fold (n := 4) (fun j ys nw => nw = (D9, listOf [.int (n2 : Nat) t2, .int (n3 : Nat) t3, .int (n4 : Nat) t4, .int (n5 : Nat) t5].toArray 0) :: (sg, listOf sv.toArray n7) :: (LL + 1, o3) :: (d, od) :: news ∧ CodesAre ys ((ns.take j).map signP)) ?_ ?_ _ _ _ _ rfl ⟨rfl, trivial⟩
  · rintro ys nw ⟨rfl, hys⟩ D10 h10 tk10 F10 N10 off10
    dsimp only
    ktr_unf
    have hb4 : (ns.take 4).map signP = ns.map signP := by subst hns; rfl
    rw [hb4] at hys
    obtain ⟨b, hb⟩ : ∃ b : List Nat, b = ns.map signP := ⟨_, rfl⟩
    have hbl : b.length = 4 := by subst hb hns; rfl
    rw [← hb] at hys
    have ew : ∀ l : List Nat, ((l.map fun c => [c]).map List.length).sum = l.length := by
      intro l; induction l with
      | nil => rfl
      | cons a r ih => simp only [List.map_cons, List.sum_cons, ih, List.length_cons, List.length_nil]; omega
    have ef : ∀ l : List Nat, (l.map fun c => [c]).flatten = l := by
      intro l; induction l with
      | nil => rfl
      | cons a r ih => rw [List.map_cons, List.flatten_cons, ih]; rfl
    refine join_S (ls := b.map fun c => [c]) (PySem.IsL.isList (n := ys.length) (N10 _ (.head _)).1) (by rw [List.map_map]; exact hys.strs) (by rw [ew]; omega) ?_
    intro t13 tk13
    rw [ef]
    have N13 := cb_drop (news := (sg, listOf sv.toArray n7) :: (LL + 1, o3) :: (d, od) :: news) N10 (fun p h => .tail _ (.tail _ h))
    clear N10 N9 N8 F9 F8
    ktr_unf
    rename Fr _ _ _ _ => F14
    rename News _ _ _ _ => N14
    dsimp only
    with_reducible refine ListComp_Str (cl := [(Str.ofString "images", LL + 1)]) F14 ?l1 ?l2 ?l3 ?l4 ?l5 ?_ ?l6
    case l1 => with_unfolding_all rfl
    case l2 => decide
    case l3 => rfl
    case l4 => decide
    case l5 => rfl
    case l6 => intro _; rfl
    ktr_unf
    refine StrSrc.intro rfl F14 N14 (by omega) ?_
    intro g15
    rw [hbl]
    refine compU_fold (n := 4) (fun j ys nw => nw = (sg, listOf sv.toArray n7) :: (LL + 1, o3) :: (d, od) :: news ∧ StrsAre ys (((b.take j).map (imgP k)).map S)) ?_ ?_ _ _ _ _ rfl ⟨rfl, .nil⟩
    rotate_left
    · rintro j ys nw hj ⟨rfl, hys⟩ v I2 oI2 C oC D2 m2 h16 tk16 E' ⟨c, u16, hc, rfl⟩ hoC hm2 F16 N16 off hne
      dsimp only
      ktr_unf
      obtain ⟨t17, ht17⟩ := tab_value c hff u16
      refine kdg_get2 (knd := PySem.strKind _ _) N16 (.tail _ (.tail _ (.tail _ (.tail _ (.tail _ (.head _)))))) hdd lod (strKind_is _ _ _ _) _ rfl ?_
      rw [ht17]
      ktr_unf
      refine LCg.CompEnd.intro F16 N16 _ (fun p h => h) off trivial ⟨rfl, ?_⟩
      rw [List.take_add_one, hc, List.map_append, List.map_append]
      exact strs_snoc hys
    · rintro ys nw ⟨rfl, hys⟩ D18 h18 tk18 F18 N18 off18
      rw [show b.take 4 = b from List.take_of_length_le (by omega)] at hys
      dsimp only
      ktr_unf
      obtain ⟨ah, hah⟩ : ∃ ah : List Nat, ah = (b.map (imgP k)).flatten := ⟨_, rfl⟩
      have hsum : ((b.map (imgP k)).map List.length).sum ≤ 24 := by have := imgs_sum k b; omega
      have hahl : ah.length ≤ 24 := by rw [hah, List.length_flatten]; exact hsum
      refine join_S (ls := b.map (imgP k)) (PySem.IsL.isList (n := ys.length) (N18 _ (.head _)).1) hys (by omega) ?_
      intro t19 tk19
      rw [← hah]
      have N19 := cb_drop (news := (sg, listOf sv.toArray n7) :: (LL + 1, o3) :: (d, od) :: news) N18 (fun p h => .tail _ h)
      clear N18
      ktr_unf
      rename Fr _ _ _ _ => F20
      rename News _ _ _ _ => N20
      with_reducible refine LCg.Assign_ListComp_U (cl := [(Str.ofString "images", LL + 1)]) F20 ?m0 ?m1 ?m2 ?m3 ?m4 ?m5 ?m6 ?m7 ?m8 ?_ ?m9
      case m0 => rfl
      case m1 => with_unfolding_all rfl
      case m2 => with_unfolding_all rfl
      case m3 => decide
      case m4 => rfl
      case m5 => decide
      case m6 => rfl
      case m7 => rfl
      case m8 => rfl
      case m9 => intro _; rfl
      ktr_unf
      have hsl : (signsP n1).length = 3 := sgSt_out n1 3
      refine sorted_codes F20 N20 (PySem.IsL.isList (n := n7) (N20 _ (.head _)).1) hsv (by omega) ?_
      intro h21 D21 cv cs' e21 F21 N21 l21 hcv hperm hpw
      have hcl : cs'.length = 3 := by rw [hperm.length_eq, hsl]
      have hcvl : cv.length = 3 := by rw [hcv.length, hcl]
      ktr_unf
      have N22 := cb_drop (news := (LL + 1, o3) :: (d, od) :: (D21, listOf cv.toArray e21) :: (sg, listOf sv.toArray n7) :: news) N21 (by
        refine List.forall_mem_cons.mpr ⟨.tail _ (.tail _ (.head _)), List.forall_mem_cons.mpr ⟨.tail _ (.tail _ (.tail _ (.head _))), List.forall_mem_cons.mpr ⟨.head _, List.forall_mem_cons.mpr ⟨.tail _ (.head _), fun p h => .tail _ (.tail _ (.tail _ (.tail _ h)))⟩⟩⟩⟩)
      clear N21
      refine LCg.CompSrc.ledger rfl F21 N22 (k := e21) (its := cv.toArray) (.tail _ (.tail _ (.head _))) (by rw [List.size_toArray, hcvl, sizeLine]; omega) ?_
      intro g22
      rw [List.size_toArray, hcvl]
      refine compU_fold (n := 3) (fun j ys nw => ∃ (ts : List Addr) (nw' : List (Addr × Obj)), ys = refs ts ∧ ts.length = j ∧ nw = (LL + 1, o3) :: (d, od) :: nw' ∧
        PairsAt k cs' ts nw' ∧ (∀ p ∈ (D21, listOf cv.toArray e21) :: (sg, listOf sv.toArray n7) :: news, p ∈ nw')) ?_ ?_ _ _ _ _ rfl ⟨[], _, rfl, rfl, rfl, PairsAt.nil, fun p h => h⟩
      rotate_left
      · rintro j ys nw hj ⟨ts, nw, rfl, htl, rfl, hts, hsub⟩ v I2 oI2 C oC D2 m2 h23 tk23 E' hP hoC hm2 F23 N23 off hne
        obtain ⟨c, u23, rfl, hc⟩ := hcv.get (by simpa using hP)
        dsimp only
        ktr_unf
        obtain ⟨t24, ht24⟩ := tab_value c hff u23
        refine kdg_get2 (knd := PySem.strKind _ _) N23 (.tail _ (.tail _ (.tail _ (.tail _ (.head _))))) hdd lod (strKind_is _ _ _ _) _ rfl ?_
        rw [ht24]
        ktr_unf
        dsimp only
        first | k_unfold | skip
        rename_i T24 h24 F24 N24 l24
        refine LCg.CompEnd.intro F24 N24 ((LL + 1, o3) :: (d, od) :: (T24, pairObj (.str (S [c]) u23) (.str (S (imgP k c)) t24) 0) :: nw) ?_ ?_ (.inr ⟨_, .tail _ (.tail _ (.tail _ (hsub _ (.head _)))), rfl, _, rfl⟩) ⟨ts ++ [T24], _, ?_, ?_, rfl, ?_, ?_⟩
        · refine List.forall_mem_cons.mpr ⟨.tail _ (.head _), List.forall_mem_cons.mpr ⟨.tail _ (.tail _ (.head _)), List.forall_mem_cons.mpr ⟨.tail _ (.tail _ (.tail _ (.head _))), List.forall_mem_cons.mpr ⟨.tail _ (.tail _ (.tail _ (.tail _ (.head _)))), List.forall_mem_cons.mpr ⟨.tail _ (.tail _ (.tail _ (.tail _ (.tail _ (.head _))))), List.forall_mem_cons.mpr ⟨.head _, fun p h => .tail _ (.tail _ (.tail _ (.tail _ (.tail _ (.tail _ h)))))⟩⟩⟩⟩⟩⟩
        · exact ⟨off.1, off.2.1, ⟨Nat.ne_of_gt l24.1, Nat.ne_of_gt l24.2.1, Nat.ne_of_gt l24.2.2.1⟩, off.2.2⟩
        · simp
        · simp [htl]
        · exact hts.snoc htl hc
        · exact fun p h => .tail _ (hsub p h)
      · rintro ys nw ⟨ts, nw, rfl, htl, rfl, hts, hsub⟩ D24 h24 tk24 F24 N24 off24
        dsimp only at F24 ⊢
        clear N22
        obtain ⟨d0, d1, d2, rfl⟩ : ∃ d0 d1 d2, cs' = [d0, d1, d2] := by
          match cs', hcl with
          | [x, y, z], _ => exact ⟨x, y, z, rfl⟩
        have off25 := off24.2.2
        have N25 := cb_drop (news := (D24, LCg.lst (refs ts)) :: nw) N24 (by
          refine List.forall_mem_cons.mpr ⟨.head _, fun p h => .tail _ (.tail _ (.tail _ h))⟩)
        clear N24 off24
        ktr_unf
        refine callWith_K (by assumption) (by k_is) ?_
        ktr_unf
        with_reducible refine LCp.ListComp_P (cl := []) F24 ?n1 ?n2 ?n3 ?n4 ?n5 ?n6 ?n7 ?_ ?n8
        case n1 => with_unfolding_all rfl
        case n2 => decide
        case n3 => rfl
        case n4 => decide
        case n5 => rfl
        case n6 => rfl
        case n7 => decide
        case n8 => intro _; rfl
        ktr_unf
        refine LCp.SrcLP.ledger rfl F24 N25 (its := (refs ts).toArray) (.head _) (by rw [List.size_toArray, List.length_map, htl, sizeLine]; omega) ?_
        intro g26
        rw [List.size_toArray, List.length_map, htl]
        refine compP_fold (n := 3) (fun j ys nw' => nw' = (D24, LCg.lst (refs ts)) :: nw ∧ IntsAre ys (([d0, d1, d2].take j).map fun c => ((imgP k c).length : Int))) ?_ ?_ _ _ _ _ rfl ⟨rfl, .nil⟩
        rotate_left
        · rintro j ys nw' hj ⟨rfl, hys⟩ v hP
          have hP' : (refs ts)[j]? = some v := by simpa using hP
          rw [List.getElem?_map] at hP'
          obtain ⟨t, ht, rfl⟩ : ∃ t, ts[j]? = some t ∧ v = .ref t := by
            cases ht : ts[j]? with
            | none => rw [ht] at hP'; cases hP'
            | some t => rw [ht] at hP'; exact ⟨t, rfl, (Option.some.inj hP').symm⟩
          obtain ⟨c, a1, a2, a3, hc, hm⟩ := hts j t ht
          refine ⟨t, _, _, _, _, rfl, .tail _ hm, rfl, rfl, ?_⟩
          intro I2 oI2 C oC D2 m2 h27 tk27 E' hoC hm2 hm2' F27 N27 off hne
          dsimp only
          ktr_unf
          refine len_S (by have := (imgP_len k c).2; omega) ?_
          ktr_unf
          refine LCg.CompEnd.intro F27 N27 _ (fun p h => h) off (.inr ⟨_, .head _, rfl, _, rfl⟩) ⟨rfl, ?_⟩
          rw [List.take_add_one, hc, List.map_append]
          exact IntsAre.append hys (.cons _ _ .nil)
        · rintro ys nw' ⟨rfl, hys⟩ D28 h28 tk28 F28 N28 off28
          obtain ⟨z0, z1, z2, rfl⟩ : ∃ z0 z1 z2, ys = [.int ((imgP k d0).length : Nat) z0, .int ((imgP k d1).length : Nat) z1, .int ((imgP k d2).length : Nat) z2] := by
            cases hys with
            | cons _ z0 h1 =>
              cases h1 with
              | cons _ z1 h2 =>
                cases h2 with
                | cons _ z2 h3 =>
                  cases h3
                  exact ⟨z0, z1, z2, rfl⟩
          dsimp only
          ktr_unf
          refine counts_c (z0 := (imgP k d0).length) (z1 := (imgP k d1).length) (z2 := (imgP k d2).length) (by assumption) F28 (by assumption) N28 (by assumption) rfl (.head _) (imgP_len k d0) (imgP_len k d1) (imgP_len k d2) (by show dp + 1 + 6 < _; omega) (by show un + 3 + 60 < _; omega) ?_
          intro h29 tk29 ct cvs nct F29 N29 hcvs lct
          replace hcvs := Held.mk hcvs
          ktr_unf
          rename_i mt hB lmt hC F30 N30
          obtain ⟨c0, c1, c2, hsg3⟩ : ∃ c0 c1 c2, signsP n1 = [c0, c1, c2] := by
            match signsP n1, hsl with
            | [x, y, z], _ => exact ⟨x, y, z, rfl⟩
          rw [hsg3] at hperm hsv
          obtain ⟨R, hRl, hR, hRe⟩ := pure_law (b := b) hk5 hsg3 hperm hpw
          rw [← hah] at hRe
          replace hRe := Held.mk hRe
          obtain ⟨NW, hNW⟩ : ∃ NW, NW = (ct, listOf cvs.toArray nct) :: (D24, LCg.lst (refs ts)) :: nw := ⟨_, rfl⟩
          have N31 : News gg LL _ ((mt, listOf #[] 0) :: NW) := cb_drop N30 (by
            rw [hNW]
            exact List.forall_mem_cons.mpr ⟨.head _, List.forall_mem_cons.mpr ⟨.tail _ (.head _), List.forall_mem_cons.mpr ⟨.tail _ (.tail _ (.tail _ (.head _))), fun p h => .tail _ (.tail _ (.tail _ (.tail _ h)))⟩⟩⟩)
          have hoff31 : ∀ p ∈ NW, p.1 ≠ mt := by
            rw [hNW]
            exact List.forall_mem_cons.mpr ⟨Nat.ne_of_lt lmt.1, List.forall_mem_cons.mpr ⟨Nat.ne_of_lt lmt.2.2.1, fun p h => Nat.ne_of_lt (ktn_ltOf lmt.2.2.2 p h)⟩⟩
          have hsgN : (sg, listOf sv.toArray n7) ∈ NW := by rw [hNW]; exact .tail _ (.tail _ (hsub _ (.tail _ (.head _))))
          have hctN : (ct, listOf cvs.toArray nct) ∈ NW := by rw [hNW]; exact .head _
          have hprN : (D24, LCg.lst (refs ts)) ∈ NW := by rw [hNW]; exact .tail _ (.head _)
          have hnewN : ∀ p ∈ news, p ∈ NW := fun p h => by rw [hNW]; exact .tail _ (.tail _ (hsub _ (.tail _ (.tail _ h))))
          have htsN : PairsAt k [d0, d1, d2] ts NW := fun i t h => by
            obtain ⟨c, a1, a2, a3, a4, a5⟩ := hts i t h
            exact ⟨c, a1, a2, a3, a4, by rw [hNW]; exact .tail _ (.tail _ a5)⟩
          clear N30
          refine For_invVF F30 rfl rfl ?_ (by intro _; rfl) (by with_unfolding_all passes_own)
          ktr_unf
          rename IsRange _ _ _ _ _ _ _ _ => hR31
          rename Fr _ _ _ _ => F31
          rename News _ _ _ _ => N32
          refine lp_range (AJ (escA k) sg D24 ct b ah t13 t19 NW R) rfl hR31 (by decide +kernel) (n := 10) (by decide +kernel) F31 N32 ?_ ?_ ?_
          · refine ⟨mt, [], NW, 0, _, rfl, kstB_self (by kst_all), hoff31, fun p h => h, rfl, ?_⟩
            intro j a h
            rw [List.getElem?_nil] at h; cases h
          · rintro i t33 m1 nx h33 tk33 own hi hown ⟨mt, ms, rest, nm, u, rfl, rfl, ho, hold, hml, hms⟩ F33 N33
            dsimp only [kstB, List.cons_append] at F33 N33 ⊢
            change Fr gg LL _ _ at F33
            change News gg LL _ _ at N33
            rw [Int.zero_add] at F33
            obtain ⟨r, hr⟩ : ∃ r, R[i]? = some r := ⟨_, List.getElem?_eq_getElem (by omega)⟩
            obtain ⟨hled, hr1, hr2⟩ := hR i r hr
            ktr_unf
            refine callWith_K (by assumption) (by k_is) ?_
            ktr_unf
            refine led_c (C := cnt [(imgP k d0).length, (imgP k d1).length, (imgP k d2).length] 12) (prs := [(d0, imgP k d0), (d1, imgP k d1), (d2, imgP k d2)]) (ts := ts) (vs := cvs) (res := r) (by assumption) F33 (by assumption) N33 (by assumption) rfl
              (.tail _ (List.mem_append_left _ (hold _ hprN))) (by rw [htl]; rfl) ?_ ?_ (.tail _ (List.mem_append_left _ (hold _ hctN))) hcvs.of (cnt_length _ _) hled (by show dp + 1 + 6 < _; omega) (by show un + 3 + 60 < _; omega) ?_
            · intro j t ht
              obtain ⟨c, a1, a2, a3, a4, a5⟩ := htsN j t ht
              refine ⟨c, imgP k c, a1, a2, a3, ?_, .tail _ (List.mem_append_left _ (hold _ a5))⟩
              show ([d0, d1, d2].map fun c => (c, imgP k c))[j]? = _
              rw [List.getElem?_map, a4]; rfl
            · intro j c img h
              have h1 : ([d0, d1, d2].map fun c => (c, imgP k c))[j]? = some (c, img) := h
              rw [List.getElem?_map] at h1
              cases h2 : [d0, d1, d2][j]? with
              | none => rw [h2] at h1; cases h1
              | some c' =>
                rw [h2] at h1
                have h3 := Option.some.inj h1
                have h4 : imgP k c' = img := congrArg Prod.snd h3
                rw [← h4]; exact (imgP_len k c').2
            · intro h34 tk34 tu q1 q2 nq F34 N34
              clear hR hRe hled hcvs htsN hts
              ktr_unf
              rename News _ _ _ _ => N35
              have N36 := cb_drop (news := (mt, listOf (refs ms).toArray nm) :: (rest ++ own)) N35 (fun p h => .tail _ h)
              clear N35
              refine add_S (by omega) ?_
              intro t36 tk36
              ktr_unf
              refine len_S (by rw [List.length_append]; omega) ?_
              ktr_unf
              refine add_S (by omega) ?_
              intro t37 tk37
              ktr_unf
              refine add_S (by omega) ?_
              intro t38 tk38
              dsimp only
              ktr_unf
              rename_i l9 h39 F39 N39 l39
              have hall : ∀ p ∈ rest ++ own, p.1 ≠ mt := by
                intro p h
                rcases List.mem_append.mp h with h | h
                · exact ho p h
                · exact hown p h _ (.head _)
              refine append_K F39 N39 (Upd.tail (Nat.ne_of_gt l39.1) (Upd.head hall)) ?_ (by rw [List.size_toArray, List.length_map, sizeLine]; omega)
              rw [refs_push]
              intro h40 F40 N40
              ktr_unf
              rename Fr _ _ _ _ => F41
              rename News _ _ _ _ => N41
              refine ⟨_, _, _, _, (mt, listOf (refs (ms ++ [l9])).toArray (nm + 1)) :: (l9, listOf [Value.int ((ah ++ r.2).length : Nat) (tk36 + 1), Value.str (S (b ++ r.1)) t37, Value.str (S (ah ++ r.2)) t38].toArray 0) :: rest, rfl, F41, N41, ?_, ?_, ?_, mt, ms ++ [l9], _, nm + 1, _, rfl, kstB_self (by kst_all), ?_, ?_, ?_, ?_⟩
              · exact List.forall_mem_cons.mpr ⟨.tail _ (.head _), List.forall_mem_cons.mpr ⟨.head _, fun p h => .tail _ (.tail _ (List.mem_append_left _ h))⟩⟩
              · exact fun p h => .tail _ (.tail _ (List.mem_append_right _ h))
              · intro p h q hq
                rcases List.mem_cons.mp hq with rfl | hq
                · exact hown p h (mt, listOf (refs ms).toArray nm) (.head _)
                · rcases List.mem_cons.mp hq with rfl | hq
                  · exact Nat.ne_of_lt (ktn_ltOf l39.2 p (List.mem_append_right _ h))
                  · exact hown p h q (.tail _ hq)
              · exact List.forall_mem_cons.mpr ⟨Nat.ne_of_gt l39.1, ho⟩
              · exact fun p h => .tail _ (hold p h)
              · rw [List.length_append, hml]; rfl
              · exact ents_snoc hms hml hr ⟨_, _, _, _, .head _⟩
          · rintro m1 nx h33 tk33 ⟨mt, ms, rest, nm, u, rfl, rfl, ho, hold, hml, hms⟩ F33 N33
            dsimp only [kstB] at F33 N33 ⊢
            change Fr gg LL _ _ at F33
            change News gg LL _ _ at N33
            clear hR hcvs htsN hts
            ktr_unf
            refine callWith_K (by assumption) (by k_is) ?_
            ktr_unf
            obtain ⟨s0, s1, s2, rfl⟩ : ∃ s0 s1 s2, sv = [.str (S [c0]) s0, .str (S [c1]) s1, .str (S [c2]) s2] := by
              match sv, hsv with
              | [_, _, _], ⟨⟨s0, e0⟩, ⟨s1, e1⟩, ⟨s2, e2⟩, _⟩ => exact ⟨s0, s1, s2, by rw [e0, e1, e2]⟩
            refine walked_c (c0 := c0) (c1 := c1) (c2 := c2) (esc := escP k) (b := b) (by assumption) F33 (by assumption) N33 (by assumption) rfl (escA_ok hk5) (escA_keep hk5) (.tail _ (hold _ hsgN)) (by omega) (escP_len k) (by show dp + 1 + 6 < _; omega) (by show un + 3 + 60 < _; omega) ?_
            intro h34 tk34 tl tas n34 rest2 D F34 N34 hsub2 hD hmap
            replace hmap := Held.mk hmap
            ktr_unf
            refine ents_eq (ms := ms) (D := fun j => (R.map (entR b ah)).getD j ⟨0, S [], S []⟩) N34 (.head _) (.tail _ (hsub2 _ (.head _))) ?_ ?_ ?_ (by show un + 3 + 3 < cLine; omega) ?_
            · have := congrArg List.length (hmap.of.trans hRe.of)
              rw [List.length_map, List.length_map] at this
              omega
            · intro j a hj
              have h1 : (tas.map D)[j]? = (R.map (entR b ah))[j]? := by rw [hmap.of, hRe.of]
              rw [List.getElem?_map, hj] at h1
              rw [List.getD_eq_getElem?_getD, ← h1]
              exact EntIn.tail (hD a (List.mem_of_getElem? hj))
            · intro j a hj
              obtain ⟨r, hr, hE⟩ := hms j a hj
              rw [List.getD_eq_getElem?_getD, List.getElem?_map, hr]
              exact EntIn.sub (fun p h => .tail _ (hsub2 _ (.tail _ h))) hE
            ktr_unf
            rename Fr h₀ _ _ _ => kF
            rename News h₀ _ _ _ => kN
            exact ret _ _ kF (cb_drop kN (fun p h => .tail _ (hsub2 _ (.tail _ (hold _ (hnewN p h))))))
  · rintro j ys nw hj ⟨rfl, hys⟩ v I2 oI2 C oC D2 m2 h11 tk11 E' hP hoC hm2 F11 N11 off hne
    obtain ⟨z, tz, rfl, hz, hzb⟩ : ∃ (z : Nat) (tz : Tok), v = .int (z : Nat) tz ∧ ns[j]? = some z ∧ z < 1000000 := by
      subst hns
      match j, hP with
      | 0, h => exact ⟨n2, _, (Option.some.inj h).symm, rfl, hn2⟩
      | 1, h => exact ⟨n3, _, (Option.some.inj h).symm, rfl, hn3⟩
      | 2, h => exact ⟨n4, _, (Option.some.inj h).symm, rfl, hn4⟩
      | 3, h => exact ⟨n5, _, (Option.some.inj h).symm, rfl, hn5⟩
      | n + 4, h => omega
    dsimp only
    ktr_unf
    refine callWith_K (by assumption) (by k_is) ?_
    ktr_unf
    refine sign_c (n := z) (by assumption) (by assumption) (by assumption) (by assumption) (by assumption) rfl hzb (by show dp + 1 + 3 < _; omega) (by show un + 3 + 40 < _; omega) ?_
    intro h12 tk12 t12 F12 N12
    refine LCg.CompEnd.intro F12 N12 _ (fun p h => h) off (.inr ⟨_, .head _, rfl, _, rfl⟩) ⟨rfl, ?_⟩
    rw [List.take_add_one, hz, List.map_append]
    exact hys.snoc
end Mine
end

-- L1
section
open PySem PySem.W PyProof.Rows PyProof.V PySem.Spec
namespace Mine
set_option linter.unusedVariables false
set_option linter.unusedSimpArgs false
set_option maxRecDepth 100000
set_option maxHeartbeats 8000000
local macro_rules | `(tactic| ktr_unf) => `(tactic| repeat' (
  (fail_if_success (with_reducible show wpAny _ _ (exec (Stmt.Assign _ (Expr.ListComp _ _ _ _) _) _) _ _ _));
  (fail_if_success (with_reducible show wpAny _ _ (eval (Expr.ListComp _ _ _ _) _) _ _ _));
  (fail_if_success (with_reducible show wpAny _ _ (call (Value.builtin _) _ _) _ _ _));
  (fail_if_success (with_reducible show wpAny _ _ (callWith _ (Value.ref _) _ _ _) _ _ _));
  (fail_if_success (with_reducible show wpAny _ _ (call (Value.ref _) _ _) _ _ _));
  (fail_if_success (with_reducible show wpAny _ _ (subscriptTail _ _ (Value.ref _) (Value.ref _)) _ _ _));
  (fail_if_success (with_reducible show wpAny _ _ (binaryOp Operator.Add (Value.ref _) (Value.ref _)) _ _ _));
  first | (k_unfold; (try dsimp only)) | walk1 | (dsimp only; walk1) | (leave1; walk_say "STEP leave1"; try dsimp only) | fail "no step"))
theorem slice6 (v0 v1 v2 v3 v4 v5 : Value) : ∀ q : Nat, q ≤ 6 → (slicePick #[v0, v1, v2, v3, v4, v5] (some (q : Int)) none none).toList = [v0, v1, v2, v3, v4, v5].drop q
  | 0, _ => by with_unfolding_all rfl
  | 1, _ => by with_unfolding_all rfl
  | 2, _ => by with_unfolding_all rfl
  | 3, _ => by with_unfolding_all rfl
  | 4, _ => by with_unfolding_all rfl
  | 5, _ => by with_unfolding_all rfl
  | 6, _ => by with_unfolding_all rfl
  | n + 7, h => absurd h (by omega)
theorem ints_nat : ∀ {vs : List Value} {is : List Int}, IntsAre vs is → (∀ i ∈ is, 0 ≤ i ∧ i < 1000000) → ∀ v ∈ vs, ∃ (n : Nat) (t : Tok), v = .int (n : Int) t ∧ n < 1000000
  | _, _, .nil, _, v, hv => (List.not_mem_nil hv).elim
  | _, _, .cons i t r, h, v, hv => by
    rcases List.mem_cons.mp hv with rfl | hv
    · have := h i (.head _)
      refine ⟨i.toNat, t, ?_, by omega⟩
      have e : ((i.toNat : Nat) : Int) = i := by omega
      rw [e]
    · exact ints_nat r (fun j hj => h j (.tail _ hj)) v hv
theorem six_of {ys : List Value} {is : List Int} {tk : Nat} (hI : IntsAre ys is) (hb : ∀ i ∈ is, 0 ≤ i ∧ i < 1000000) (hy : ys.length ≤ 6) :
    ∃ (n0 n1 n2 n3 n4 n5 : Nat) (q0 q1 q2 q3 q4 q5 : Tok), ys ++ [Value.int ((1 : Nat) : Int) tk, .int ((241 : Nat) : Int) (tk + 1), .int ((0 : Nat) : Int) (tk + 1 + 1), .int ((14 : Nat) : Int) (tk + 1 + 1 + 1), .int ((461 : Nat) : Int) (tk + 1 + 1 + 1 + 1), .int ((6 : Nat) : Int) (tk + 1 + 1 + 1 + 1 + 1)].drop ys.length
      = [.int (n0 : Nat) q0, .int (n1 : Nat) q1, .int (n2 : Nat) q2, .int (n3 : Nat) q3, .int (n4 : Nat) q4, .int (n5 : Nat) q5] ∧ n0 < 1000000 ∧ n1 < 1000000 ∧ n2 < 1000000 ∧ n3 < 1000000 ∧ n4 < 1000000 ∧ n5 < 1000000 := by
  have h1 := ints_nat hI hb
  have h2 : ∀ v ∈ [Value.int ((1 : Nat) : Int) tk, .int ((241 : Nat) : Int) (tk + 1), .int ((0 : Nat) : Int) (tk + 1 + 1), .int ((14 : Nat) : Int) (tk + 1 + 1 + 1), .int ((461 : Nat) : Int) (tk + 1 + 1 + 1 + 1), .int ((6 : Nat) : Int) (tk + 1 + 1 + 1 + 1 + 1)], ∃ (n : Nat) (t : Tok), v = .int (n : Int) t ∧ n < 1000000 := by
    refine List.forall_mem_cons.mpr ⟨⟨_, _, rfl, by decide⟩, List.forall_mem_cons.mpr ⟨⟨_, _, rfl, by decide⟩, List.forall_mem_cons.mpr ⟨⟨_, _, rfl, by decide⟩, List.forall_mem_cons.mpr ⟨⟨_, _, rfl, by decide⟩, List.forall_mem_cons.mpr ⟨⟨_, _, rfl, by decide⟩, List.forall_mem_cons.mpr ⟨⟨_, _, rfl, by decide⟩, fun v h => (List.not_mem_nil h).elim⟩⟩⟩⟩⟩⟩
  generalize hW : [Value.int ((1 : Nat) : Int) tk, .int ((241 : Nat) : Int) (tk + 1), .int ((0 : Nat) : Int) (tk + 1 + 1), .int ((14 : Nat) : Int) (tk + 1 + 1 + 1), .int ((461 : Nat) : Int) (tk + 1 + 1 + 1 + 1), .int ((6 : Nat) : Int) (tk + 1 + 1 + 1 + 1 + 1)] = W at h2 ⊢
  have hWl : W.length = 6 := by rw [← hW]; rfl
  have h3 : ∀ v ∈ ys ++ W.drop ys.length, ∃ (n : Nat) (t : Tok), v = .int (n : Int) t ∧ n < 1000000 := by
    intro v hv
    rcases List.mem_append.mp hv with hv | hv
    · exact h1 v hv
    · exact h2 v (List.mem_of_mem_drop hv)
  have h4 : (ys ++ W.drop ys.length).length = 6 := by rw [List.length_append, List.length_drop, hWl]; omega
  generalize ys ++ W.drop ys.length = zs at h3 h4
  match zs, h4 with
  | [v0, v1, v2, v3, v4, v5], _ =>
    obtain ⟨n0, q0, rfl, b0⟩ := h3 v0 (by simp)
    obtain ⟨n1, q1, rfl, b1⟩ := h3 v1 (by simp)
    obtain ⟨n2, q2, rfl, b2⟩ := h3 v2 (by simp)
    obtain ⟨n3, q3, rfl, b3⟩ := h3 v3 (by simp)
    obtain ⟨n4, q4, rfl, b4⟩ := h3 v4 (by simp)
    obtain ⟨n5, q5, rfl, b5⟩ := h3 v5 (by simp)
    exact ⟨n0, n1, n2, n3, n4, n5, q0, q1, q2, q3, q4, q5, rfl, b0, b1, b2, b3, b4, b5⟩
theorem law_holds : Challenge.rw_mr0207_01.Holds := hd (by
  k_go0
  all_goals (try k_fold)
  ktr_unf
  rename Fr _ _ _ _ => F1
  rename News _ _ _ _ => N1
  with_reducible refine LCg.Assign_ListComp_U (cl := []) F1 ?m0 ?m1 ?m2 ?m3 ?m4 ?m5 ?m6 ?m7 ?m8 ?_ ?m9
  case m0 => rfl
  case m1 => with_unfolding_all rfl
  case m2 => with_unfolding_all rfl
  case m3 => decide
  case m4 => rfl
  case m5 => decide
  case m6 => rfl
  case m7 => rfl
  case m8 => rfl
  case m9 => intro _; rfl
  ktr_unf
  walk1
  ktr_unf
  rename_i ys hI hyl0 D1 h1 tk1 F2 N2 o1
  have hyl : ys.length = _ := hyl0
  refine callWith_K (by assumption) (by k_is) ?_
  ktr_unf
  have hy6 : ys.length ≤ 6 := by
    rw [hyl, List.length_map, List.length_take]; exact Nat.min_le_left _ _
  rename News _ _ _ _ => N2
  refine len_any (vs := ys) (n := ys.length) N2 (.tail _ (.head _)) (by omega) ?_
  ktr_unf
  rename Fr _ _ _ _ => F3
  rename Shared => s1
  refine kba_turn (value' := PySem.Expr.Name (PySem.Str.ofString "x") ⟨0, 0, 0, 0⟩) (fun _ => rfl) ?_
  refine' kmk_slice_lit (s := { s1 with heap := _, toks := _ }) (zs := [Value.int ((1 : Nat) : Int) tk1, .int ((241 : Nat) : Int) (tk1 + 1), .int ((0 : Nat) : Int) (tk1 + 1 + 1), .int ((14 : Nat) : Int) (tk1 + 1 + 1 + 1), .int ((461 : Nat) : Int) (tk1 + 1 + 1 + 1 + 1), .int ((6 : Nat) : Int) (tk1 + 1 + 1 + 1 + 1 + 1)].drop ys.length) F3 N2 (PySem.IsL.isList (n := 0) (N2 _ (.head _)).1) ?slP ?slQ ?slE ?_ ?slS ?slT ?slZ
  case slP => kmk_part
  case slQ => kmk_part
  case slE => exact slice6 _ _ _ _ _ _ _ hy6
  case slS => with_unfolding_all rfl
  case slT => kmk_pure
  case slZ => show 6 ≤ 2 ^ 24; omega
  intro D4 h4 F4 N4 l4
  dsimp only
  ktr_unf
  refine' kmk_add_lit (its := ys.toArray) (its2 := ([Value.int ((1 : Nat) : Int) tk1, .int ((241 : Nat) : Int) (tk1 + 1), .int ((0 : Nat) : Int) (tk1 + 1 + 1), .int ((14 : Nat) : Int) (tk1 + 1 + 1 + 1), .int ((461 : Nat) : Int) (tk1 + 1 + 1 + 1 + 1), .int ((6 : Nat) : Int) (tk1 + 1 + 1 + 1 + 1 + 1)].drop ys.length).toArray)
    (zs := ys ++ [Value.int ((1 : Nat) : Int) tk1, .int ((241 : Nat) : Int) (tk1 + 1), .int ((0 : Nat) : Int) (tk1 + 1 + 1), .int ((14 : Nat) : Int) (tk1 + 1 + 1 + 1), .int ((461 : Nat) : Int) (tk1 + 1 + 1 + 1 + 1), .int ((6 : Nat) : Int) (tk1 + 1 + 1 + 1 + 1 + 1)].drop ys.length)
    F4 N4 (PySem.IsL.isList (n := ys.length) (N4 _ (.tail _ (.tail _ (.head _)))).1) (PySem.IsL.isList (n := 0) (N4 _ (.head _)).1) rfl ?_ ?_
  rotate_left
  · simp only [List.toList_toArray, List.length_drop, List.length_cons, List.length_nil, sizeLine]; omega
  intro D5 h5 F5 N5 l5
  ktr_unf
  obtain ⟨n0, n1, n2, n3, n4, n5, q0, q1, q2, q3, q4, q5, e6, b0, b1, b2, b3, b4, b5⟩ := six_of (tk := tk1) hI (fun i hi => by
    obtain ⟨j, _, rfl⟩ := List.mem_map.mp hi
    rw [Int.fmod_eq_emod_of_nonneg _ (by decide)]
    exact ⟨Int.emod_nonneg _ (by decide), Int.emod_lt_of_pos _ (by decide)⟩) hy6
  rw [e6] at N5
  refine agree_c (n0 := n0) (n1 := n1) (n2 := n2) (n3 := n3) (n4 := n4) (n5 := n5) (by assumption) F5 (by assumption) N5 (by assumption) rfl (.head _) b0 b1 b2 b3 b4 b5 (by decide) (by decide) ?_
  intro h6 tk6 F6 N6
  ktr_unf
  dsimp only
  wrow_close)
end Mine
end

theorem PySem.Challenge.cw_mr0207_01_holds : PySem.Challenge.rw_mr0207_01.Holds := by
  exact Mine.law_holds
