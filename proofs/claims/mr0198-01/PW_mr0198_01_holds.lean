import PyProof.Rows.All
import Wide.All
import OpenK.AllK
import Wide.FinOn
import PySem.Challenge.RW_mr0198_01
open PySem PySem.W PyProof.Rows
set_option Elab.async false
set_option compiler.extract_closed false
set_option maxRecDepth 100000
set_option maxHeartbeats 8000000
set_option linter.unusedVariables false
namespace Mine
open_top hd for PySem.Challenge.rw_mr0198_01
open PySem.Calls

structure En where
  t : Addr
  x : Int
  y : Int
  u : Tok
  v : Tok
  n : Nat
def En.obj (e : En) : Obj := { cls := .type "tuple", data := .seq #[.int e.x e.u, .int e.y e.v] e.n }
def En.val (e : En) : Value := .ref e.t
def vals (es : List En) : List Value := es.map En.val
def pltB (a b : Int × Int) : Bool := decide (a.1 < b.1) || (decide (a.1 = b.1) && decide (a.2 < b.2))
def En.d (e : En) : Int × Int := (e.x, e.y)
def En.lt (a b : En) : Bool := pltB a.d b.d

theorem pltB_ne {x y x2 y2 : Int} (h : ¬ x = x2) : pltB (x, y) (x2, y2) = decide (x < x2) := by
  simp [pltB, h]
theorem pltB_eq {x y y2 : Int} : pltB (x, y) (x, y2) = decide (y < y2) := by
  simp [pltB]
theorem tuple_lt_pair (l b : Addr) (x y x2 y2 : Int) (t1 t2 t3 t4 : Tok) (n n2 : Nat) :
    Meets (Builtin.«tuple.__lt__» ⟨[.ref l, .ref b], []⟩)
      (fun _ R s => s.heap.get? l = some { cls := .type "tuple", data := .seq #[.int x t1, .int y t2] n } ∧ s.heap.get? b = some { cls := .type "tuple", data := .seq #[.int x2 t3, .int y2 t4] n2 } ∧
        R (.ok (.ret (.bool (pltB (x, y) (x2, y2))))) s) :=
  .of_wp fun prog w A R s h => by
    obtain ⟨hp, g, d, tk, os⟩ := s; obtain ⟨hl, hb, h⟩ := h
    have f2 := AutoSeq1.sub_tuple_tuple
    wp_walk using wpAny_loadPart' hl, wpAny_loadPart' hb, wpAny_forIn_list _ (fun rest b s' => b.1 = none ∧ s' = ⟨hp, g, d, tk, os⟩ ∧
      (rest = [(Value.int x t1, Value.int x2 t3), (Value.int y t2, Value.int y2 t4)] ∨ (x = x2 ∧ rest = [(Value.int y t2, Value.int y2 t4)]) ∨ (x = x2 ∧ y = y2 ∧ rest = []))) _
    case turn =>
      rintro ⟨p, q⟩ rest b s' ⟨hb', rfl, hz⟩
      rcases hz with hz | ⟨hx, hz⟩ | ⟨_, _, hz⟩
      · injection hz with hyx hrest
        injection hyx with h1 h2
        subst h1 h2
        refine wpAny_bind (MeetsSeq.EqGives.int x x2 t1 t3 prog w _ _ _ _ ?_)
        by_cases hxx : x = x2
        · subst hxx
          rw [beq_self_eq_true]
          wp_walk
          exact ⟨rfl, rfl, .inr (.inl ⟨rfl, hrest⟩)⟩
        · have hxb : (x == x2) = false := by simpa using hxx
          rw [hxb]
          rw [pltB_ne hxx] at h
          simp only [Bool.not_false, if_true]
          refine wpAny_bind (wpAny_rule ?_)
          refine wpAny_bind (show wpAny _ _ (compareOp .Lt (.int x t1) (.int x2 t3)) _ _ _ from PyProof.Rows.lt_int ?_)
          wp_walk
          exact ⟨_, rfl, by simpa using h⟩
      · subst hx
        injection hz with hyx hrest
        injection hyx with h1 h2
        subst h1 h2
        refine wpAny_bind (MeetsSeq.EqGives.int y y2 t2 t4 prog w _ _ _ _ ?_)
        by_cases hxx : y = y2
        · subst hxx
          rw [beq_self_eq_true]
          wp_walk
          exact ⟨rfl, rfl, .inr (.inr ⟨rfl, rfl, hrest⟩)⟩
        · have hxb : (y == y2) = false := by simpa using hxx
          rw [hxb]
          rw [pltB_eq] at h
          simp only [Bool.not_false, if_true]
          refine wpAny_bind (wpAny_rule ?_)
          refine wpAny_bind (show wpAny _ _ (compareOp .Lt (.int y t2) (.int y2 t4)) _ _ _ from PyProof.Rows.lt_int ?_)
          wp_walk
          exact ⟨_, rfl, by simpa using h⟩
      · cases hz
    case fin =>
      rintro ⟨b1, b2⟩ s' ⟨hb', rfl, hz⟩
      simp only at hb'
      subst hb'
      rcases hz with hz | ⟨_, hz⟩ | ⟨hx, hy, _⟩
      · cases hz
      · cases hz
      · subst hx hy
        wp_walk
        exact ⟨_, rfl, by simpa [Builtin.Tuple.tupleCompareSizes, pltB] using h⟩
    case h =>
      exact ⟨rfl, rfl, .inl rfl⟩

section
variable {prog : Program} {w : World} {A : Around} {E : Value → Shared → Prop} {s : Shared} {h₀ : Heap} {L : Addr} {news : List (Addr × Obj)} {e f : En} {Q : Value → Shared → Prop}
theorem lt_En (N : News h₀ L s.heap news) (he : (e.t, e.obj) ∈ news) (hf : (f.t, f.obj) ∈ news) (hu : A.units < cLine) (h : Q (.bool (e.lt f)) s) :
    wpAny (model prog w) A (compareOp .Lt (.ref e.t) (.ref f.t)) Q E s :=
  show wpAny (model prog w) A (richCompare .Lt (.ref e.t) (.ref f.t)) Q E s from
  richCompare_meets_room (op := .Lt) ⟨_, (N _ he).1, rfl⟩ ⟨_, (N _ hf).1, rfl⟩ F.slot_tuple_lt F.entry_tuple_lt (F.args_tuple_lt_2 _ _)
    (tuple_lt_pair e.t f.t e.x e.y f.x f.y e.u e.v f.u f.v e.n f.n) ⟨(N _ he).1, (N _ hf).1, show Value.bool _ ≠ Value.notImplemented ∧ Q _ s from ⟨(fun x => nomatch x), h⟩⟩ hu
theorem vals_length (es : List En) : (vals es).length = es.length := by simp [vals]
theorem vals_get {es : List En} {i : Nat} {e : En} (h : es[i]? = some e) : (vals es)[i]? = some (.ref e.t) := by simp [vals, h, En.val]
theorem vals_set (es : List En) (i : Nat) (e : En) : (vals es).set i (.ref e.t) = vals (es.set i e) := by simp [vals, List.map_set, En.val]

variable {l : Addr} {es : List En} {n : Nat} {k : Int} {m : Str → Option Value} {news' : List (Addr × Obj)}
theorem item_En {value slice : PySem.Expr} {u : Tok} (N : News h₀ L s.heap news) (hm : (l, listOf (vals es).toArray n) ∈ news) (h0 : 0 ≤ k) (h1 : k < (es.length : Int)) (h2 : es.length ≤ 1000) (h : ∀ e, es[k.toNat]? = some e → Q (.ref e.t) s)
    (hs : subscripted slice false (.ref l) (.int k u) = operate [.ref l, .int k u] (getItem (.ref l) (.int k u)) := by with_unfolding_all rfl) (hg : ∀ r, letTemporaryGo value (.ref l) r = pure () := by intro _; with_unfolding_all rfl) :
    wpAny (model prog w) A (subscriptTail value slice (.ref l) (.int k u)) Q E s := by
  have hk : k.toNat < es.length := (Int.toNat_lt h0).mpr h1
  have e := List.getElem?_eq_getElem hk
  exact kim_list N hm rfl rfl h0 (by omega) (vals_get e) (h _ e) hs hg
theorem set_En {t : Tok} {Q : Unit → Shared → Prop} (F : Fr h₀ L s.heap m) (N : News h₀ L s.heap news) (U : Upd l (listOf (vals es).toArray n) (listOf (vals (es.set k.toNat e)).toArray n) news news') (h0 : 0 ≤ k) (h1 : k < (es.length : Int)) (h2 : es.length ≤ 1000)
    (h : ∀ h', Fr h₀ L h' m → News h₀ L h' news' → Q () { s with heap := h' }) :
    wpAny (model prog w) A (setItem (.ref l) (.int k t) (.ref e.t)) Q E s := by
  obtain ⟨pre, post, rfl, rfl, a, b⟩ := U.split
  have z := N (l, listOf (vals es).toArray n) (List.mem_append.mpr (.inr (.head _)))
  have hs : (vals es).toArray.size = es.length := by rw [List.size_toArray]; exact vals_length es
  refine ki_setAt z.1 h0 (by omega) (by omega) (h _ (F.change (Heap.SameBut.update ..) z.2.1 z.2.2) (ki_turn _ N a b ?_ ?_))
  · show (vals es).toArray.setIfInBounds k.toNat (.ref e.t) = _
    apply Array.toList_inj.mp
    simp [vals_set]
  · simp [vals]
end

theorem o_par {k i : Nat} (h : i < k) : (k - 1) / 2 < k := by omega
theorem o_parn {k n : Nat} (h : k < n) : (k - 1) / 2 < n := Nat.lt_of_le_of_lt (Nat.le_trans (Nat.div_le_self _ _) (Nat.sub_le _ _)) h
theorem o_parne {k i : Nat} (h : i < k) : k ≠ (k - 1) / 2 := Ne.symm (Nat.ne_of_lt (o_par h))
theorem o_dec {n k d c : Nat} (hd : n - k = d) (h : k < n) (h1 : k < c) : n - c < d := hd ▸ Nat.sub_lt_sub_left h h1
theorem o_chn {k c : Nat} (h : c = 2 * k + 1 ∨ c = 2 * k + 2) : k < c := by omega
theorem o_l (k : Nat) : k < 2 * k + 1 := o_chn (.inl rfl)
theorem o_r (k : Nat) : k < 2 * k + 2 := o_chn (.inr rfl)
theorem o_of {x c : Nat} (h : c = 2 * x + 1 ∨ c = 2 * x + 2) : x = (c - 1) / 2 := by omega
theorem o_ch {k i : Nat} (h : i < k) : k = 2 * ((k - 1) / 2) + 1 ∨ k = 2 * ((k - 1) / 2) + 2 := by omega
theorem o_t0 {k i : Int} (hi : 0 ≤ i) (h : i < k) : ((k - 1) / 2).toNat = (k.toNat - 1) / 2 := by omega
theorem o_ti {k i : Int} (hi : 0 ≤ i) (h : i < k) : i.toNat < k.toNat := (Int.toNat_lt_toNat (Int.lt_of_le_of_lt hi h)).mpr h
theorem o_t1 {k : Int} (h : 0 ≤ k) : (2 * k + 1).toNat = 2 * k.toNat + 1 := by omega
theorem o_t2 {k : Int} (h : 0 ≤ k) : (2 * k + 1 + 1).toNat = 2 * k.toNat + 2 := by omega
theorem o_i1 {k : Int} (h : 0 ≤ k) : k < 2 * k + 1 := by omega
theorem o_i2 {k : Int} (h : 0 ≤ k) : k < 2 * k + 1 + 1 := Int.lt_trans (o_i1 h) (Int.lt_succ _)
theorem o_meas {n : Nat} {k c : Int} (h0 : 0 ≤ k) (h1 : k < c) (h2 : k < (n : Int)) : n - c.toNat < n - k.toNat := Nat.sub_lt_sub_left ((Int.toNat_lt h0).mpr h2) (o_ti h0 h1)
theorem o_h1 {n i : Nat} (h : i < n) : ((n : Int) - 1 + (i : Int) * -1).toNat = n - 1 - i := by omega
theorem o_h2 {n i : Nat} (h : i < n) : n - i = n - 1 - i + 1 := by omega
theorem o_h3 (n i : Nat) : n - (i + 1) = n - 1 - i := by rw [Nat.sub_sub, Nat.add_comm]
theorem o_d0 {k i : Int} (hi : 0 ≤ i) (h : i < k) : 0 ≤ (k - 1) / 2 := Int.ediv_nonneg (Int.le_sub_one_of_lt (Int.lt_of_le_of_lt hi h)) (by decide)
theorem o_d1 {k i n : Int} (hi : 0 ≤ i) (h : i < k) (h2 : k < n) : (k - 1) / 2 < n := by omega
theorem o_d2 {k i : Int} (hi : 0 ≤ i) (h : i < k) : ((k - 1) / 2).toNat < k.toNat := o_t0 hi h ▸ o_par (o_ti hi h)
theorem room3 {u a b c N : Nat} (h : u + c < N) (k : a + b ≤ c) : u + a + b < N := Nat.lt_of_le_of_lt (Nat.add_assoc u a b ▸ Nat.add_le_add_left k u) h
theorem room2 {u a c N : Nat} (h : u + c < N) (k : a ≤ c) : u + a < N := Nat.lt_of_le_of_lt (Nat.add_le_add_left k u) h
theorem room1 {u c N : Nat} (h : u + c < N) : u < N := Nat.lt_of_le_of_lt (Nat.le_add_right _ _) h
def sdLoop {α : Type} (lt : α → α → Bool) (i : Nat) (e : α) (k : Nat) (es : List α) : List α :=
  if i < k then
    match es[(k - 1) / 2]? with
    | some p => if lt e p then sdLoop lt i e ((k - 1) / 2) (es.set k p) else es.set k e
    | none => es
  else es.set k e
termination_by k
decreasing_by exact o_par ‹_›
def sdown {α : Type} (lt : α → α → Bool) (es : List α) (i k : Nat) : List α :=
  match es[k]? with
  | some e => sdLoop lt i e k es
  | none => es

def WhEnd {σ : Type} (h₀ : Heap) (L : Addr) (s : Shared) (Led : σ → List (Addr × Obj)) (ps : σ → List (Str × Value)) (P : σ → Prop) (μ : σ → Nat) (c : σ) (s₂ : Shared) : Prop :=
  ∃ (c' : σ) (h' : Heap) (tk : Nat) (m' : Str → Option Value), s₂ = { s with heap := h', toks := tk } ∧ Fr h₀ L h' m' ∧ News h₀ L h' (Led c') ∧ (∀ p ∈ ps c', m' p.1 = some p.2) ∧ P c' ∧ μ c' < μ c
def WhPost {σ : Type} (h₀ : Heap) (L : Addr) (s : Shared) (Led : σ → List (Addr × Obj)) (ps : σ → List (Str × Value)) (P : σ → Prop) (μ : σ → Nat) (Q : Flow → Shared → Prop) (c : σ) (f : Flow) (s₂ : Shared) : Prop :=
  match f with
  | .ret v => Q (.ret v) s₂
  | .brk => Q .next s₂
  | _ => WhEnd h₀ L s Led ps P μ c s₂
theorem kstB_self {m : Str → Option Value} {ps : List (Str × Value)} (h : ∀ p ∈ ps, m p.1 = some p.2) : kstB m ps = m := by
  funext y
  exact kstB_eq h fun _ => rfl
section
variable {prog : Program} {w : World} {A : Around} {E : Value → Shared → Prop} {Q : Flow → Shared → Prop} {s : Shared} {env : Env} {h₀ : Heap} {L : Addr}
theorem wh_while {σ : Type} {test : Expr} {body : List Stmt} {pos : Pos} {m₀ : Str → Option Value} (Led : σ → List (Addr × Obj)) (ps : σ → List (Str × Value)) (P : σ → Prop) (μ : σ → Nat) (c₀ : σ)
    (F : Fr h₀ L s.heap m₀) (N : News h₀ L s.heap (Led c₀)) (hk : ∀ p ∈ ps c₀, m₀ p.1 = some p.2) (hp : P c₀)
    (turn : ∀ (c : σ) (u : Str → Option Value) h tk, P c → Fr h₀ L h (kstB u (ps c)) → News h₀ L h (Led c) →
      wpAny (model prog w) A (isTrue test env (eval test env)) (fun b s₂ =>
        if b = true then wpAny (model prog w) A (execs body env) (WhPost h₀ L s Led ps P μ Q c) E s₂ else Q .next s₂) E { s with heap := h, toks := tk })
    (hE : PassesOwn (model prog w) A env E := by passes_own) :
    wpAny (model prog w) A (exec (.While test body [] pos) env) Q E s := by
  refine While_inv2 (fun n m nx => ∃ c : σ, nx = Led c ∧ μ c = n ∧ (∀ p ∈ ps c, m p.1 = some p.2) ∧ P c) F N ⟨c₀, rfl, rfl, hk, hp⟩ ?_ hE
  rintro n m₁ nx h tk F₁ N₁ ⟨c, hnx, hsz, h1, hp'⟩
  rw [hnx] at N₁
  rw [← hsz]
  refine wpAny_mono (turn c m₁ h tk hp' (by rw [kstB_self h1]; exact F₁) N₁) (fun b s₂ p => ?_) fun _ _ x => x
  cases b with
  | false => simpa using p
  | true =>
    simp only [if_true] at p ⊢
    refine wpAny_mono p (fun f s₃ q => ?_) fun _ _ x => x
    cases f with
    | ret v => exact q
    | brk => exact q
    | next =>
      obtain ⟨c', h', tk', m', rfl, F', N', hk9, hp9, hm9⟩ := q
      exact ⟨h', tk', m', Led c', μ c', rfl, F', N', hm9, c', rfl, rfl, hk9, hp9⟩
    | cont =>
      obtain ⟨c', h', tk', m', rfl, F', N', hk9, hp9, hm9⟩ := q
      exact ⟨h', tk', m', Led c', μ c', rfl, F', N', hm9, c', rfl, rfl, hk9, hp9⟩
end

theorem rshift_one {prog : Program} {w : World} {A : Around} {E : Value → Shared → Prop} {s : Shared} {a : Int} {t u : Tok} {Q : Value → Shared → Prop} (h : ∀ t tk, Q (.int (a / 2) t) { s with toks := tk }) :
    wpAny (model prog w) A (binaryOp .RShift (.int a t) (.int 1 u)) Q E s := by
  refine rshift_int (by decide) ?_
  have e : a.fdiv (2 ^ Int.toNat 1) = a / 2 := by
    show a.fdiv 2 = a / 2
    rw [Int.fdiv_eq_ediv_of_nonneg _ (by decide)]
  rw [e]; exact h _ _

theorem en_mem {es : List En} {i : Nat} {e : En} {rest : List (Addr × Obj)} (h : es[i]? = some e) (hes : ∀ e ∈ es, (e.t, e.obj) ∈ rest) : (e.t, e.obj) ∈ rest := hes e (List.mem_of_getElem? h)
def En.gt (a b : En) : Bool := b.lt a
section
variable {α : Type} {lt : α → α → Bool} {es : List α} {i k : Int} {e p : α}
theorem sdLoop_go (hi : 0 ≤ i) (h : i < k) (hp : es[((k - 1) / 2).toNat]? = some p) (hl : lt e p = true) : sdLoop lt i.toNat e ((k - 1) / 2).toNat (es.set k.toNat p) = sdLoop lt i.toNat e k.toNat es := by
  have e1 := o_t0 hi h
  rw [e1] at hp ⊢
  conv => rhs; rw [sdLoop]
  rw [if_pos (o_ti hi h), hp]
  simp only [hl, if_true]
theorem sdLoop_brk (hi : 0 ≤ i) (h : i < k) (hp : es[((k - 1) / 2).toNat]? = some p) (hl : lt e p = false) : sdLoop lt i.toNat e k.toNat es = es.set k.toNat e := by
  have e1 := o_t0 hi h
  rw [e1] at hp
  rw [sdLoop, if_pos (o_ti hi h), hp]
  simp only [hl, Bool.false_eq_true, if_false]
theorem sdLoop_end (hi : 0 ≤ i) (h : ¬ i < k) : sdLoop lt i.toNat e k.toNat es = es.set k.toNat e := by
  rw [sdLoop, if_neg (by omega)]
theorem sdown_of (h : es[k.toNat]? = some e) : sdown lt es i.toNat k.toNat = sdLoop lt i.toNat e k.toNat es := by
  unfold sdown; rw [h]
end
theorem set_has {es : List En} {k : Nat} {p : En} {rest : List (Addr × Obj)} (hes : ∀ e ∈ es, (e.t, e.obj) ∈ rest) (hp : (p.t, p.obj) ∈ rest) : ∀ e ∈ es.set k p, (e.t, e.obj) ∈ rest := fun e he => by
  rcases List.mem_or_eq_of_mem_set he with h | h
  · exact hes e h
  · exact h ▸ hp
def suLoop {α : Type} (lt : α → α → Bool) (k : Nat) (es : List α) : Nat × List α :=
  if _h : 2 * k + 1 < es.length then
    match es[2 * k + 1]?, es[2 * k + 2]? with
    | some a, some b => if lt a b then suLoop lt (2 * k + 1) (es.set k a) else suLoop lt (2 * k + 2) (es.set k b)
    | some a, none => suLoop lt (2 * k + 1) (es.set k a)
    | none, _ => (k, es)
  else (k, es)
termination_by es.length - k
decreasing_by
  all_goals simp_wf
  all_goals exact Nat.sub_lt_sub_left (Nat.lt_trans (o_l k) ‹_›) (by first | exact o_l k | exact o_r k)
def sup {α : Type} (lt : α → α → Bool) (es : List α) (k : Nat) : List α :=
  match es[k]? with
  | some e => sdown lt ((suLoop lt k es).2.set (suLoop lt k es).1 e) k (suLoop lt k es).1
  | none => es
theorem len_En {prog : Program} {w : World} {A : Around} {E : Value → Shared → Prop} {s : Shared} {h₀ : Heap} {L : Addr} {news : List (Addr × Obj)} {l : Addr} {es : List En} {n : Nat} {Q : Value → Shared → Prop}
    (N : News h₀ L s.heap news) (hm : (l, listOf (vals es).toArray n) ∈ news) (h2 : es.length ≤ 1000) (h : ∀ t tk, Q (.int (es.length : Int) t) { s with toks := tk }) :
    wpAny (model prog w) A (call (.builtin "len") [.ref l]) Q E s := by
  have e : (vals es).toArray.size = es.length := by rw [List.size_toArray]; exact vals_length es
  refine PyProof.Rows.len_list (N.isList hm) (by rw [e]; omega) ?_
  rw [e]
  exact h _ _

section
variable {α : Type} {lt : α → α → Bool} {es : List α} {k : Int} {e a b : α}
theorem suLoop_left (h0 : 0 ≤ k) (hl : lt a b = true) (ha : es[(2 * k + 1).toNat]? = some a) (hb : es[(2 * k + 1 + 1).toNat]? = some b) {a' : α} (ha' : es[(2 * k + 1).toNat]? = some a') : suLoop lt (2 * k + 1).toNat (es.set k.toNat a') = suLoop lt k.toNat es := by
  rw [ha] at ha'; cases ha'
  have e1 := o_t1 h0
  have e2 := o_t2 h0
  rw [e1] at ha ⊢
  rw [e2] at hb
  conv => rhs; rw [suLoop]
  rw [dif_pos (List.getElem?_eq_some_iff.mp ha).1, ha, hb]
  simp only [hl, if_true]
theorem suLoop_right (h0 : 0 ≤ k) (hl : lt a b = false) (ha : es[(2 * k + 1).toNat]? = some a) (hb : es[(2 * k + 1 + 1).toNat]? = some b) {b' : α} (hb' : es[(2 * k + 1 + 1).toNat]? = some b') : suLoop lt (2 * k + 1 + 1).toNat (es.set k.toNat b') = suLoop lt k.toNat es := by
  rw [hb] at hb'; cases hb'
  have e1 := o_t1 h0
  have e2 := o_t2 h0
  rw [e1] at ha
  rw [e2] at hb ⊢
  conv => rhs; rw [suLoop]
  rw [dif_pos (List.getElem?_eq_some_iff.mp ha).1, ha, hb]
  simp only [hl, Bool.false_eq_true, if_false]
theorem suLoop_only (h0 : 0 ≤ k) (ha : es[(2 * k + 1).toNat]? = some a) (hb : ¬ 2 * k + 1 + 1 < (es.length : Int)) : suLoop lt (2 * k + 1).toNat (es.set k.toNat a) = suLoop lt k.toNat es := by
  have e1 := o_t1 h0
  have e2 : es[2 * k.toNat + 2]? = none := List.getElem?_eq_none (by omega)
  rw [e1] at ha ⊢
  conv => rhs; rw [suLoop]
  rw [dif_pos (List.getElem?_eq_some_iff.mp ha).1, ha, e2]
theorem suLoop_end (h0 : 0 ≤ k) (h : ¬ 2 * k + 1 < (es.length : Int)) : suLoop lt k.toNat es = (k.toNat, es) := by
  rw [suLoop, dif_neg (by omega)]
theorem sup_of {es1 : List α} {k1 : Int} (he : es[k.toNat]? = some e) (h : suLoop lt k1.toNat es1 = suLoop lt k.toNat es) (h0 : 0 ≤ k1) (h1 : ¬ 2 * k1 + 1 < (es1.length : Int)) : sup lt es k.toNat = sdown lt (es1.set k1.toNat e) k.toNat k1.toNat := by
  unfold sup
  rw [he]
  dsimp only
  rw [← h, suLoop_end h0 h1]
end
def rngO (a b c : Int) (t u v : Tok) : Obj := { cls := .type "range", data := .fields #[.int a t, .int b u, .int c v] }
def ritO (x left step : Int) : Obj := { cls := .type "range_iterator", data := .fields #[rawInt x, rawInt left, rawInt step] }
section
variable {prog : Program} {w : World} {A : Around} {E : Value → Shared → Prop} {s : Shared} {h₀ : Heap} {L : Addr} {news : List (Addr × Obj)} {m : Str → Option Value} {Q : Value → Shared → Prop} {r : Addr} {n : Int} {t u v : Tok}
theorem range1_L (F : Fr h₀ L s.heap m) (N : News h₀ L s.heap news)
    (h : ∀ r h' tk t u v, Fr h₀ L h' m → News h₀ L h' ((r, rngO 0 n 1 t u v) :: news) → (∀ p ∈ news, p.1 < r) → Q (.ref r) { s with heap := h', toks := tk }) : wpAny (model prog w) A (call (.type "range") [.int n t]) Q E s :=
  call_range_1 (h _ _ _ _ _ _ (F.push _) (N.push F _) fun p hp => Heap.lt_size (N p hp).1)
theorem iter_range_L (F : Fr h₀ L s.heap m) (N : News h₀ L s.heap news) (hm : (r, rngO 0 n 1 t u v) ∈ news) (h0 : 0 ≤ n) (h1 : n ≤ 100000)
    (h : ∀ I h', Fr h₀ L h' m → News h₀ L h' ((I, ritO 0 n 1) :: news) → (∀ p ∈ news, p.1 < I) → Q (.ref I) { s with heap := h' }) : wpAny (model prog w) A (pyIter (.ref r)) Q E s := by
  refine wpAny_pyIter_range (N _ hm).1 (small_one (by omega) (by omega) (by omega) (by omega)) ?_
  have e : Builtin.Range.rangeSize 0 n 1 = n := by
    have := rangeSize_nat 0 n
    rw [this]; omega
  rw [e]
  exact h _ _ (F.push _) (N.push F _) fun p hp => Heap.lt_size (N p hp).1
theorem iter_rit_L {x left step : Int} (N : News h₀ L s.heap news) (hm : (r, ritO x left step) ∈ news) (h : Q (.ref r) s) : wpAny (model prog w) A (pyIter (.ref r)) Q E s :=
  wpAny_pyIter_rangeiter (N _ hm).1 h
end
theorem sub_rit_reversed : isSubtype (.type "range_iterator") (.type "reversed") = pure false := by rw [isSubtype_type]; kernel_rfl
section
open PySem.Calls
variable {prog : Program} {w : World} {A : Around} {E : Value → Shared → Prop} {s : Shared}
theorem call_range_reversed {r : Addr} {n : Int} {t u v : Tok} {Q : Value → Shared → Prop} (hr : IsRange s.heap r 0 n 1 t u v) (h0 : 0 ≤ n) (h1 : n ≤ 100000)
    (h : Q (.ref s.heap.objs.size) { s with heap := s.heap.push (ritO (n - 1) n (-1)) }) : wpAny (model prog w) A (call (.builtin "range.__reversed__") [.ref r]) Q E s := by
  have hT : s.TypeIs (.ref r) "range" := ⟨_, hr, rfl⟩
  have e : Builtin.Range.rangeSize 0 n 1 = n := by
    have := rangeSize_nat 0 n
    rw [this]; omega
  refine wpAny_call_entry F.slot_range_reversed hT F.entry_range_reversed ?_ (F.args_range_reversed_1 _)
  have e1 : (Builtin.Range.rangeFitsLong 0 && Builtin.Range.rangeFitsLong n && Builtin.Range.rangeFitsLong 1 && Builtin.Range.rangeFitsLong (-1) && Builtin.Range.rangeFitsLong (0 - 1) && Builtin.Range.rangeFitsLong n) = true := by
    simp only [Builtin.Range.rangeFitsLong, Bool.and_eq_true, decide_eq_true_eq]
    omega
  have e2 : (0 : Int) + (n - 1) * 1 = n - 1 := by omega
  obtain ⟨hp, g, d, tk, os⟩ := s
  wp_walk using wpAny_loadPart' hr
  rw [e, e1, e2]
  simp only [Bool.not_true, Bool.false_eq_true, if_false, if_true]
  exact wpAny_bind (wpAny_newObj_type (wpAny_pure ⟨_, rfl, h⟩))
theorem code_reversed_range {r : Addr} {n : Int} {t u v : Tok} {Q₁ : Value → Shared → Prop} (hr : IsRange s.heap r 0 n 1 t u v) (h0 : 0 ≤ n) (h1 : n ≤ 100000)
    (h : Q₁ (.ref s.heap.objs.size) { s with heap := s.heap.push (ritO (n - 1) n (-1)) }) :
    codeAny (model prog w) A (.call (.builtin "reversed.__new__") ⟨[.type "reversed", .ref r], []⟩) (wants Q₁ E) s := by
  have hT : s.TypeIs (.ref r) "range" := ⟨_, hr, rfl⟩
  refine codeAny_of_tree ?_
  show wpAny _ A.in1 (do checkBuiltinCall "reversed.__new__" ⟨[.type "reversed", .ref r], []⟩; again (.builtin "reversed.__new__" ⟨[.type "reversed", .ref r], []⟩)) _ _ s
  refine wpAny_bind (wpAny_of_eq (F.newCall_reversed_1 _) (wpAny_pure ⟨plainId_quiet F.plain_reversed_new _, codeAny_builtin F.entry_reversed_new ?_⟩))
  rw [Around.under_plainId F.plain_reversed_new _]
  unfold Builtin.«reversed.__new__»
  refine wpAny_bind (wpAny_of_eq (newClass_reversed _) ?_)
  try dsimp only
  refine wpAny_bind (wpAny_of_eq (a := ()) (by first | rfl | kernel_rfl) ?_)
  refine wpAny_bind (wpAny_of_eq (a := ()) (by first | rfl | kernel_rfl) ?_)
  try dsimp only
  refine wpAny_bind (wpAny_specialOf hT F.slot_range_reversed.lookup ?_)
  try dsimp only
  refine wpAny_bind (wpAny_of_eq (F.slot_range_reversed.bind _) ?_)
  try dsimp only
  first
  | rw [if_neg (show ¬ ((Value.builtin "range.__reversed__" == Value.none) = true) from Bool.false_ne_true)]
  | (show wpAny _ _ (if (Value.builtin "range.__reversed__" == Value.none) = true then _ else _) _ _ _; rw [if_neg (show ¬ ((Value.builtin "range.__reversed__" == Value.none) = true) from Bool.false_ne_true)])
  refine wpAny_bind (wpAny_rule ?_)
  refine wpAny_bind (m := runValue (.call (.builtin "range.__reversed__") ⟨[.ref r], []⟩)) (show wpAny _ _ (call (.builtin "range.__reversed__") [.ref r]) _ _ _ from call_range_reversed hr h0 h1 ?_)
  first
  | exact wpAny_pure h
  | exact wpAny_bind (wpAny_pure (wpAny_pure h))
theorem reversed_range_L {h₀ : Heap} {L : Addr} {news : List (Addr × Obj)} {m : Str → Option Value} {Q : Value → Shared → Prop} {r : Addr} {n : Int} {t u v : Tok} (F : Fr h₀ L s.heap m) (N : News h₀ L s.heap news) (hm : (r, rngO 0 n 1 t u v) ∈ news) (h0 : 0 ≤ n) (h1 : n ≤ 100000)
    (h : ∀ I h', Fr h₀ L h' m → News h₀ L h' ((I, ritO (n - 1) n (-1)) :: news) → (∀ p ∈ news, p.1 < I) → Q (.ref I) { s with heap := h' }) : wpAny (model prog w) A (call (.type "reversed") [.ref r]) Q E s := by
  refine callType_other (U := "range_iterator") (Q₁ := fun obj s₁ => obj = .ref s.heap.objs.size ∧ s₁ = { s with heap := s.heap.push (ritO (n - 1) n (-1)) }) (by decide +kernel) PySem.F.create_reversed ⟨_, _, PySem.F.mro_reversed⟩ PySem.F.made_reversed sub_rit_reversed (PySem.F.typeCall_reversed_1 _) (code_reversed_range (N _ hm).1 h0 h1 ⟨rfl, rfl⟩) ?_
  rintro obj s₁ ⟨rfl, rfl⟩
  exact ⟨⟨_, Heap.get?_push_size _ rfl, rfl⟩, h _ _ (F.push _) (N.push F _) fun p hp => Heap.lt_size (N p hp).1⟩
end

def FoEnd {σ : Type} (h₀ : Heap) (L : Addr) (s : Shared) (I : Addr) (io : Obj) (Hd Tl : σ → List (Addr × Obj)) (ps : σ → List (Str × Value)) (P : σ → Prop) (s₂ : Shared) : Prop :=
  ∃ (c' : σ) (h' : Heap) (tk : Nat) (m' : Str → Option Value), s₂ = { s with heap := h', toks := tk } ∧ Fr h₀ L h' m' ∧ News h₀ L h' (Hd c' ++ (I, io) :: Tl c') ∧ (∀ p ∈ Hd c' ++ Tl c', p.1 ≠ I) ∧ (∀ p ∈ ps c', m' p.1 = some p.2) ∧ P c'
def FoPost {σ : Type} (h₀ : Heap) (L : Addr) (s : Shared) (I : Addr) (io : Obj) (Hd Tl : σ → List (Addr × Obj)) (ps : σ → List (Str × Value)) (P : σ → Prop) (Q : Flow → Shared → Prop) (f : Flow) (s₂ : Shared) : Prop :=
  match f with
  | .ret v => Q (.ret v) s₂
  | .brk => Q .next s₂
  | _ => FoEnd h₀ L s I io Hd Tl ps P s₂
theorem news_iter {h₀ h h' : Heap} {L I : Addr} {io io' : Obj} {H T : List (Addr × Obj)} (N : News h₀ L h (H ++ (I, io) :: T)) (off : ∀ p ∈ H ++ T, p.1 ≠ I) (hi : h'.get? I = some io') (hs : ∀ b o, b ≠ I → h.get? b = some o → h'.get? b = some o) : News h₀ L h' (H ++ (I, io') :: T) := by
  intro p hp
  have z := N (I, io) (by simp)
  rcases List.mem_append.mp hp with q | q
  · have y := N p (List.mem_append_left _ q)
    exact ⟨hs _ _ (off p (List.mem_append_left _ q)) y.1, y.2⟩
  · rcases List.mem_cons.mp q with rfl | q
    · exact ⟨hi, z.2⟩
    · have y := N p (List.mem_append_right _ (.tail _ q))
      exact ⟨hs _ _ (off p (List.mem_append_right _ q)) y.1, y.2⟩
theorem news_drop {h₀ h : Heap} {L : Addr} {q : Addr × Obj} {H T : List (Addr × Obj)} (N : News h₀ L h (H ++ q :: T)) : News h₀ L h (H ++ T) := fun p hp => N p (by
  rcases List.mem_append.mp hp with h | h
  · exact List.mem_append_left _ h
  · exact List.mem_append_right _ (.tail _ h))
theorem news_keep {h₀ h h' : Heap} {L I : Addr} {H : List (Addr × Obj)} (N : News h₀ L h H) (off : ∀ p ∈ H, p.1 ≠ I) (hs : ∀ b o, b ≠ I → h.get? b = some o → h'.get? b = some o) : News h₀ L h' H := fun p hp => ⟨hs _ _ (off p hp) (N p hp).1, (N p hp).2⟩
theorem fr_keep {h₀ h h' : Heap} {L I : Addr} {m : Str → Option Value} (F : Fr h₀ L h m) (hL : L ≠ I) (h0 : h₀.get? I = none) (hs : ∀ b o, b ≠ I → h.get? b = some o → h'.get? b = some o) : Fr h₀ L h' m :=
  ⟨F.ns.at' fun o e => hs _ o hL e, fun b o e => hs b o (fun q => by rw [q, h0] at e; cases e) (F.keep b o e), F.above⟩
section
variable {prog : Program} {w : World} {A : Around} {E : Value → Shared → Prop} {Q : Flow → Shared → Prop} {s : Shared} {env : Env} {h₀ : Heap}
theorem for_gen {σ : Type} {x : Str} {px : Pos} {body : List Stmt} {I : Addr} {n : Nat} {m₀ : Str → Option Value} (io : Nat → Obj) (vOf : Nat → Value → Prop) (Hd Tl : σ → List (Addr × Obj)) (ps : σ → List (Str × Value)) (P : Nat → σ → Prop) (c₀ : σ)
    (hx : env.kindOf x = some .local) (hp : (env.scope.kind == .class || (env.scope.kind == .module && env.locals != env.globals)) = false)
    (item : ∀ i c (s' : Shared) (Q' : Option Value → Shared → Prop) (E' : Value → Shared → Prop), i < n → P i c → News h₀ env.locals s'.heap (Hd c ++ (I, io i) :: Tl c) →
      (∀ v h' tk, vOf i v → h'.get? I = some (io (i + 1)) → (∀ b o, b ≠ I → s'.heap.get? b = some o → h'.get? b = some o) → Q' (some v) { s' with heap := h', toks := tk }) → wpAny (model prog w) A (pyNext (.ref I)) Q' E' s')
    (fin : ∀ c (s' : Shared) (Q' : Option Value → Shared → Prop) (E' : Value → Shared → Prop), P n c → News h₀ env.locals s'.heap (Hd c ++ (I, io n) :: Tl c) →
      (∀ h' tk, (∀ b o, b ≠ I → s'.heap.get? b = some o → h'.get? b = some o) → Q' none { s' with heap := h', toks := tk }) → wpAny (model prog w) A (pyNext (.ref I)) Q' E' s')
    (F : Fr h₀ env.locals s.heap m₀) (N : News h₀ env.locals s.heap (Hd c₀ ++ (I, io 0) :: Tl c₀)) (hoff : ∀ p ∈ Hd c₀ ++ Tl c₀, p.1 ≠ I) (hk : ∀ p ∈ ps c₀, m₀ p.1 = some p.2) (hP : P 0 c₀)
    (turn : ∀ i c u h tk v, i < n → vOf i v → P i c → (∀ p ∈ Hd c ++ Tl c, p.1 ≠ I) → Fr h₀ env.locals h (fun y => if y = x then some v else kstB u (ps c) y) → News h₀ env.locals h (Hd c ++ (I, io (i + 1)) :: Tl c) →
      wpAny (model prog w) A (execs body env) (FoPost h₀ env.locals s I (io (i + 1)) Hd Tl ps (P (i + 1)) Q) E { s with heap := h, toks := tk })
    (done : ∀ c u h tk, P n c → Fr h₀ env.locals h (kstB u (ps c)) → News h₀ env.locals h (Hd c ++ Tl c) → Q .next { s with heap := h, toks := tk })
    (hE : PassesOwn (model prog w) A env E := by passes_own) :
    codeAny (model prog w) A (.forLoop (.Name x px) (.ref I) body [] env) (fun r s' => match r with | .ok f => Q f s' | .error e => cameBackBy (model prog w) A env E e s') s := by
  have z := N (I, io 0) (by simp)
  refine codeAny_forLoop
    (fun k s' => ∃ h' tk m' c i, s' = { s with heap := h', toks := tk } ∧ Fr h₀ env.locals h' m' ∧ News h₀ env.locals h' (Hd c ++ (I, io i) :: Tl c) ∧ (∀ p ∈ Hd c ++ Tl c, p.1 ≠ I) ∧ (∀ p ∈ ps c, m' p.1 = some p.2) ∧ P i c ∧ i ≤ n ∧ k = n + 1 - i) ?_ (n + 1)
    ⟨s.heap, s.toks, m₀, c₀, 0, rfl, F, N, hoff, hk, hP, Nat.zero_le _, rfl⟩
  rintro k s' ⟨h', tk, m', c, i, rfl, F', N', off', hk', hP', hi, rfl⟩
  by_cases hlt : i < n
  · refine item i c _ _ _ hlt hP' N' fun v h₁ tk₁ hv hI₁ hs₁ => ?_
    have F₁ := fr_keep F' (Ne.symm z.2.1) z.2.2 hs₁
    have N₁ := news_iter N' off' hI₁ hs₁
    refine wpAny_assign_Name (wpAny_storeName_local hx F₁.ns (fun h₂ hn₂ hs₂ => ?_) hp)
    have F₂ := F₁.set hn₂ hs₂
    rw [← kstB_self hk'] at F₂
    refine wpAny_passesOwn hE (wpAny_mono (turn i c _ h₂ _ v hlt hv hP' off' F₂ (N₁.set hs₂)) (fun f s₃ h₃ => ?_) fun _ _ e => e)
    cases f with
    | ret v => exact h₃
    | brk => exact h₃
    | cont =>
      obtain ⟨c', h3, tk3, m3, rfl, F3, N3, off3, hk3, hP3⟩ := h₃
      exact ⟨n + 1 - (i + 1), by omega, h3, tk3, m3, c', i + 1, rfl, F3, N3, off3, hk3, hP3, hlt, rfl⟩
    | next =>
      obtain ⟨c', h3, tk3, m3, rfl, F3, N3, off3, hk3, hP3⟩ := h₃
      exact ⟨n + 1 - (i + 1), by omega, h3, tk3, m3, c', i + 1, rfl, F3, N3, off3, hk3, hP3, hlt, rfl⟩
  · have hin : i = n := by omega
    subst hin
    refine fin c _ _ _ hP' N' fun h₁ tk₁ hs₁ => wpAny_execs_nil ?_
    have F₁ := fr_keep F' (Ne.symm z.2.1) z.2.2 hs₁
    rw [← kstB_self hk'] at F₁
    exact done c _ h₁ tk₁ hP' F₁ (news_keep (news_drop N') off' hs₁)
theorem for_range {σ : Type} {x : Str} {px : Pos} {body : List Stmt} {I : Addr} {a step : Int} {n : Nat} {m₀ : Str → Option Value} (Hd Tl : σ → List (Addr × Obj)) (ps : σ → List (Str × Value)) (P : Nat → σ → Prop) (c₀ : σ)
    (hh : A.handled = none) (hx : env.kindOf x = some .local) (hp : (env.scope.kind == .class || (env.scope.kind == .module && env.locals != env.globals)) = false)
    (F : Fr h₀ env.locals s.heap m₀) (N : News h₀ env.locals s.heap (Hd c₀ ++ (I, ritO a (n : Int) step) :: Tl c₀)) (hoff : ∀ p ∈ Hd c₀ ++ Tl c₀, p.1 ≠ I) (hk : ∀ p ∈ ps c₀, m₀ p.1 = some p.2) (hP : P 0 c₀)
    (turn : ∀ (i : Nat) c u h tk t io, i < n → P i c → (∀ p ∈ Hd c ++ Tl c, p.1 ≠ I) → Fr h₀ env.locals h (fun y => if y = x then some (.int (a + (i : Int) * step) t) else kstB u (ps c) y) → News h₀ env.locals h (Hd c ++ (I, io) :: Tl c) →
      wpAny (model prog w) A (execs body env) (FoPost h₀ env.locals s I io Hd Tl ps (P (i + 1)) Q) E { s with heap := h, toks := tk })
    (done : ∀ c u h tk, P n c → Fr h₀ env.locals h (kstB u (ps c)) → News h₀ env.locals h (Hd c ++ Tl c) → Q .next { s with heap := h, toks := tk })
    (hE : PassesOwn (model prog w) A env E := by passes_own) :
    codeAny (model prog w) A (.forLoop (.Name x px) (.ref I) body [] env) (fun r s' => match r with | .ok f => Q f s' | .error e => cameBackBy (model prog w) A env E e s') s := by
  refine for_gen (n := n) (fun i => ritO (a + (i : Int) * step) ((n : Int) - (i : Int)) step) (fun i v => ∃ t, v = .int (a + (i : Int) * step) t) Hd Tl ps P c₀ hx hp ?_ ?_ F ?_ hoff hk hP ?_ done hE
  · intro i c s' Q' E' hi _ N' hq
    refine wpAny_pyNext_range_item (N' (I, ritO (a + (i : Int) * step) ((n : Int) - (i : Int)) step) (by simp)).1 (by omega) fun h' hit hs => hq _ h' _ ⟨_, rfl⟩ ?_ fun b o hb e => hs.extBut b o hb e
    have e1 : a + ((i + 1 : Nat) : Int) * step = a + (i : Int) * step + step := by push_cast; rw [Int.add_mul, Int.one_mul, Int.add_assoc]
    have e2 : (n : Int) - ((i + 1 : Nat) : Int) = (n : Int) - (i : Int) - 1 := by push_cast; omega
    rw [e1, e2]; exact hit
  · intro c s' Q' E' _ N' hq
    exact wpAny_pyNext_range_end hh (N' (I, ritO (a + (n : Int) * step) ((n : Int) - (n : Int)) step) (by simp)).1 (by omega) fun h' he => hq h' s'.toks fun b o hb e => he b o hb e
  · have e1 : a + ((0 : Nat) : Int) * step = a := by simp
    have e2 : (n : Int) - ((0 : Nat) : Int) = n := by simp
    rw [e1, e2]; exact N
  · rintro i c u h tk v hi ⟨t, rfl⟩ hP' off' F' N'
    exact turn i c u h tk t _ hi hP' off' F' N'
end
section
variable {prog : Program} {w : World} {A : Around} {E : Value → Shared → Prop} {s : Shared} {a b : Int} {t u : Tok} {Q : Value → Shared → Prop}
theorem fdiv_L (hb : 0 < b) (hb2 : b < 1000) (h : ∀ t tk, Q (.int (a / b) t) { s with toks := tk }) : wpAny (model prog w) A (binaryOp .FloorDiv (.int a t) (.int b u)) Q E s := by
  refine floordiv_int (by omega) ?_ (Or.inl (PyProof.noPylong_small (by omega)))
  rw [Int.fdiv_eq_ediv_of_nonneg _ (by omega)]
  exact h _ _
theorem fmod_L (hb : 0 < b) (h : ∀ t tk, Q (.int (a % b) t) { s with toks := tk }) : wpAny (model prog w) A (binaryOp .Mod (.int a t) (.int b u)) Q E s := by
  refine mod_int' (by omega) ?_
  rw [Int.fmod_eq_emod_of_nonneg _ (by omega)]
  exact h _ _
end
theorem has_tail {es : List En} {q : Addr × Obj} {rest : List (Addr × Obj)} (h : ∀ e ∈ es, (e.t, e.obj) ∈ rest) : ∀ e ∈ es, (e.t, e.obj) ∈ q :: rest := fun e he => .tail _ (h e he)
theorem news_sub {h₀ h : Heap} {L : Addr} {a b : List (Addr × Obj)} (N : News h₀ L h a) (hs : ∀ p ∈ b, p ∈ a) : News h₀ L h b := fun p hp => N p (hs p hp)
section
variable {prog : Program} {w : World} {A : Around} {E : Value → Shared → Prop} {s : Shared} {h₀ : Heap} {L : Addr} {m : Str → Option Value} {news news' : List (Addr × Obj)} {l : Addr} {es : List En} {n : Nat}
theorem pop_En {z : En} {Q : Value → Shared → Prop} (F : Fr h₀ L s.heap m) (N : News h₀ L s.heap news) (U : Upd l (listOf (vals (es ++ [z])).toArray n) (listOf (vals es).toArray (n + 1)) news news') (h2 : es.length ≤ 1000)
    (h : ∀ h', Fr h₀ L h' m → News h₀ L h' news' → Q (.ref z.t) { s with heap := h' }) : wpAny (model prog w) A (call (.builtin "list.pop") [.ref l]) Q E s := by
  refine kl_pop F N (p := vals es) (y := .ref z.t) ?_ U ?_ h
  · have e := kpa_last (.ref z.t) (vals es)
    simpa [vals, En.val] using e
  · have := sizeLine_eq
    simp [vals]; omega
theorem truthy_En {Q : Bool → Shared → Prop} (N : News h₀ L s.heap news) (hm : (l, listOf (vals es).toArray n) ∈ news) (h2 : es.length ≤ 1000) (h : ∀ tk, Q (decide (0 < es.length)) { s with toks := tk }) : wpAny (model prog w) A (truthy (.ref l)) Q E s := by
  have e : (vals es).toArray.size = es.length := by rw [List.size_toArray]; exact vals_length es
  refine wpAny_truthy_list (N.isList hm) (by omega) ?_
  have e2 : (!(vals es).toArray.isEmpty) = decide (0 < es.length) := by
    unfold Array.isEmpty
    rw [e]
    cases es <;> simp
  rw [e2]
  exact h _
end
section
open PyProof.Rows.LCg
variable {prog : Program} {w : World} {A : Around} {s : Shared} {h₀ : Heap} {L : Addr} {m : Str → Option Value} {env : Env} {ct elt : Expr} {x x₂ : Str} {scope : Scope} {cl : List (Str × Addr)} {S : List (Addr × Obj) → Prop} {P : Nat → Value → Prop} {Fin : List Value → List (Addr × Obj) → Prop} {n : Nat}
theorem compEnd_mono {s₁ s₂ : Shared} {I C D : Addr} {oI oC oD : Obj} {y : Value} {R R' : Value → List (Addr × Obj) → Prop} (h : CompEnd h₀ L m s₁ I oI C oC D oD S R y s₂) (hr : ∀ y nw, R y nw → R' y nw) : CompEnd h₀ L m s₁ I oI C oC D oD S R' y s₂ := by
  obtain ⟨h', tk, nw, e, F, N, o, hS, r⟩ := h
  exact ⟨h', tk, nw, e, F, N, o, hS, hr _ _ r⟩
theorem compRest_inv (J : Nat → List Value → List (Addr × Obj) → Prop)
    (step : ∀ i ys news v I oI C oC D m₂ h tk (E' : Value → Shared → Prop), i < n → P i v → J i ys news → NsObj oC m₂ → m₂ x = some v → Fr h₀ L h m → News h₀ L h ((I, oI) :: (C, oC) :: (D, lst ys) :: news) → Off3 I C D news → ((@Ne Nat I C) ∧ (@Ne Nat I D) ∧ (@Ne Nat C D)) →
      wpAny (model prog w) A (eval elt (compEnvC scope cl C env)) (CompEnd h₀ L m { s with heap := h, toks := tk } I oI C oC D (lst ys) S (fun y news' => J (i + 1) (ys ++ [y]) news')) E' { s with heap := h, toks := tk })
    (fin : ∀ ys news, J n ys news → Fin ys news) : ∀ k i ys news, i + k = n → J i ys news → CompRest prog w A h₀ L m env elt x scope cl s S P Fin k i ys news
  | 0, i, ys, news, e, hJ => fin ys news (by have : i = n := by omega
                                             rw [← this]; exact hJ)
  | k + 1, i, ys, news, e, hJ => by
    refine CompRest.succ ?_
    intro v I oI C oC D m₂ h tk E' hv hC hx F N off ne
    refine wpAny_mono (step i ys news v I oI C oC D m₂ h tk E' (by omega) hv hJ hC hx F N off ne) (fun y s' q => ?_) fun _ _ q => q
    exact compEnd_mono q fun y nw hj => compRest_inv J step fin k (i + 1) (ys ++ [y]) nw (by omega) hj
theorem compRestP_inv (J : Nat → List Value → List (Addr × Obj) → Prop) (K : Nat → En → Prop)
    (tup : ∀ i ys news v, i < n → P i v → J i ys news → ∃ e : En, v = .ref e.t ∧ (e.t, e.obj) ∈ news ∧ K i e)
    (step : ∀ i ys news (e : En) I oI C oC D m₂ h tk (E' : Value → Shared → Prop), i < n → K i e → (e.t, e.obj) ∈ news → J i ys news → NsObj oC m₂ → m₂ x = some (.int e.x e.u) → m₂ x₂ = some (.int e.y e.v) → Fr h₀ L h m → News h₀ L h ((I, oI) :: (C, oC) :: (D, lst ys) :: news) → Off3 I C D news → ((@Ne Nat I C) ∧ (@Ne Nat I D) ∧ (@Ne Nat C D)) →
      wpAny (model prog w) A (eval elt (compEnvC scope cl C env)) (CompEnd h₀ L m { s with heap := h, toks := tk } I oI C oC D (lst ys) S (fun y news' => J (i + 1) (ys ++ [y]) news')) E' { s with heap := h, toks := tk })
    (fin : ∀ ys news, J n ys news → Fin ys news) : ∀ k i ys news, i + k = n → J i ys news → PyProof.Rows.LCp.CompRestP prog w A h₀ L m env elt x x₂ scope cl s S P Fin k i ys news
  | 0, i, ys, news, e, hJ => fin ys news (by have : i = n := by omega
                                             rw [← this]; exact hJ)
  | k + 1, i, ys, news, e, hJ => by
    refine PyProof.Rows.LCp.CompRestP.succ ?_
    intro v hv
    obtain ⟨q, rfl, hq, hv⟩ := tup i ys news v (by omega) hv hJ
    refine ⟨q.t, q.obj, _, _, q.n, rfl, hq, rfl, rfl, ?_⟩
    intro I oI C oC D m₂ h tk E' hC hx hx2 F N off ne
    refine wpAny_mono (step i ys news q I oI C oC D m₂ h tk E' (by omega) hv hq hJ hC hx hx2 F N off ne) (fun y s' q => ?_) fun _ _ q => q
    exact compEnd_mono q fun y nw hj => compRestP_inv J K tup step fin k (i + 1) (ys ++ [y]) nw (by omega) hj
theorem compRestT_inv (J : Nat → List Value → List (Addr × Obj) → Prop)
    (step : ∀ i ys news v I oI C oC D m₂ h tk (E' : Value → Shared → Prop), i < n → P i v → J i ys news → NsObj oC m₂ → m₂ x = some v → Fr h₀ L h m → News h₀ L h ((I, oI) :: (C, oC) :: (D, lst ys) :: news) → Off3 I C D news → ((@Ne Nat I C) ∧ (@Ne Nat I D) ∧ (@Ne Nat C D)) →
      wpAny (model prog w) A (isTrue ct (compEnvC scope cl C env) (eval ct (compEnvC scope cl C env))) (fun ok s' => if ok = true then
        wpAny (model prog w) A (eval elt (compEnvC scope cl C env)) (CompEnd h₀ L m { s with heap := h, toks := tk } I oI C oC D (lst ys) S (fun y news' => J (i + 1) (ys ++ [y]) news')) E' s'
        else CompEnd h₀ L m { s with heap := h, toks := tk } I oI C oC D (lst ys) S (fun _ news' => J (i + 1) ys news') Value.none s') E' { s with heap := h, toks := tk })
    (fin : ∀ ys news, J n ys news → Fin ys news) : ∀ k i ys news, i + k = n → J i ys news → PyProof.Rows.LCt.CompRestT prog w A h₀ L m env ct elt x scope cl s S P Fin k i ys news
  | 0, i, ys, news, e, hJ => fin ys news (by have : i = n := by omega
                                             rw [← this]; exact hJ)
  | k + 1, i, ys, news, e, hJ => by
    refine PyProof.Rows.LCt.CompRestT.succ ?_
    intro v I oI C oC D m₂ h tk E' hv hC hx F N off ne
    refine wpAny_mono (step i ys news v I oI C oC D m₂ h tk E' (by omega) hv hJ hC hx F N off ne) (fun ok s' q => ?_) fun _ _ q => q
    cases ok with
    | true =>
      simp only [if_true] at q ⊢
      refine wpAny_mono q (fun y s' q => ?_) fun _ _ q => q
      exact compEnd_mono q fun y nw hj => compRestT_inv J step fin k (i + 1) (ys ++ [y]) nw (by omega) hj
    | false =>
      simp only [Bool.false_eq_true, if_false] at q ⊢
      exact compEnd_mono q fun y nw hj => compRestT_inv J step fin k (i + 1) ys nw (by omega) hj
end
section
variable {prog : Program} {w : World} {A : Around} {E : Value → Shared → Prop} {s : Shared} {h₀ : Heap} {L : Addr} {news : List (Addr × Obj)} {e : En} {Q : Value → Shared → Prop} {value slice : Expr} {u : Tok}
theorem tup0_En (N : News h₀ L s.heap news) (hm : (e.t, e.obj) ∈ news) (h : Q (.int e.x e.u) s)
    (hs : subscripted slice false (.ref e.t) (.int 0 u) = operate [.ref e.t, .int 0 u] (getItem (.ref e.t) (.int 0 u)) := by with_unfolding_all rfl) (hg : ∀ r, letTemporaryGo value (.ref e.t) r = pure () := by intro _; with_unfolding_all rfl) :
    wpAny (model prog w) A (subscriptTail value slice (.ref e.t) (.int 0 u)) Q E s :=
  kim_tup (l := [.int e.x e.u, .int e.y e.v]) (n := e.n) (j := 0) N hm rfl rfl (by decide) (by decide) rfl rfl h hs hg
theorem tup1_En (N : News h₀ L s.heap news) (hm : (e.t, e.obj) ∈ news) (h : Q (.int e.y e.v) s)
    (hs : subscripted slice false (.ref e.t) (.int 1 u) = operate [.ref e.t, .int 1 u] (getItem (.ref e.t) (.int 1 u)) := by with_unfolding_all rfl) (hg : ∀ r, letTemporaryGo value (.ref e.t) r = pure () := by intro _; with_unfolding_all rfl) :
    wpAny (model prog w) A (subscriptTail value slice (.ref e.t) (.int 1 u)) Q E s :=
  kim_tup (l := [.int e.x e.u, .int e.y e.v]) (n := e.n) (j := 1) N hm rfl rfl (by decide) (by decide) rfl rfl h hs hg
end
def cat (cs : List (Int × Int)) (j : Int) : Int × Int := cs.getD j.toNat (0, 1)
theorem cat_of {ks : List En} {j : Int} {e : En} (h : ks[j.toNat]? = some e) : cat (ks.map En.d) j = e.d := by
  simp [cat, h]
def firstsD (cs : List (Int × Int)) (n : Nat) : List (Int × Int) := (List.range n).map fun (j : Nat) => ((cat cs (j : Int)).1, (j : Int))
theorem map_snoc {es : List En} {f : Nat → Int × Int} {n : Nat} {e : En} (h : es.map En.d = (List.range n).map f) (he : e.d = f n) : (es ++ [e]).map En.d = (List.range (n + 1)).map f := by
  rw [List.map_append, h, List.range_succ, List.map_append]; simp [he]
theorem vals_snoc (es : List En) (e : En) : vals es ++ [.ref e.t] = vals (es ++ [e]) := by simp [vals, En.val]
theorem has_snoc {es : List En} {e : En} {nw nw' : List (Addr × Obj)} (h : ∀ e ∈ es, (e.t, e.obj) ∈ nw) (hs : ∀ p ∈ nw, p ∈ nw') (he : (e.t, e.obj) ∈ nw') : ∀ x ∈ es ++ [e], (x.t, x.obj) ∈ nw' := fun x hx => by
  rcases List.mem_append.mp hx with q | q
  · exact hs _ (h x q)
  · rw [List.mem_singleton.mp q]; exact he
theorem map_len {es : List En} {f : Nat → Int × Int} {n : Nat} (h : es.map En.d = (List.range n).map f) : es.length = n := by
  have := congrArg List.length h
  simpa using this
section
open PyProof.Rows.LCg
theorem comp_add {h₀ : Heap} {L I C D D1 : Addr} {m : Str → Option Value} {s₁ : Shared} {oI oC oD o1 : Obj} {S : List (Addr × Obj) → Prop} {R : Value → List (Addr × Obj) → Prop} {y : Value} {h' : Heap} {tk : Nat} {nw : List (Addr × Obj)}
    (F : Fr h₀ L h' m) (N : News h₀ L h' ((D1, o1) :: (I, oI) :: (C, oC) :: (D, oD) :: nw)) (l1 : (@LT.lt Nat _ I D1) ∧ (@LT.lt Nat _ C D1) ∧ (@LT.lt Nat _ D D1) ∧ AllLt D1 nw) (off : Off3 I C D nw) (hS : S ((D1, o1) :: nw)) (r : R y ((D1, o1) :: nw)) :
    CompEnd h₀ L m s₁ I oI C oC D oD S R y { s₁ with heap := h', toks := tk } := by
  obtain ⟨a1, a2, a3, _⟩ := l1
  refine CompEnd.intro F N ((D1, o1) :: nw) ?_ ⟨⟨Nat.ne_of_gt a1, Nat.ne_of_gt a2, Nat.ne_of_gt a3⟩, off⟩ hS r
  intro p hp
  simp only [List.mem_cons] at hp ⊢
  rcases hp with h | h | h | h | h
  · exact .inr (.inl h)
  · exact .inr (.inr (.inl h))
  · exact .inr (.inr (.inr (.inl h)))
  · exact .inl h
  · exact .inr (.inr (.inr (.inr h)))
theorem off1_mem {D : Addr} : ∀ {l : List (Addr × Obj)}, Off1 D l → ∀ p ∈ l, p.1 ≠ D := by
  intro l
  induction l with
  | nil => intro _ p hp; cases hp
  | cons q r ih =>
    intro h p hp
    rcases List.mem_cons.mp hp with rfl | hp
    · exact h.1
    · exact ih h.2 p hp
end
theorem vals_at {es : List En} {i : Nat} {v : Value} (h : (vals es).toArray[i]? = some v) : ∃ e, es[i]? = some e ∧ v = .ref e.t := by
  simp only [List.getElem?_toArray, vals, List.getElem?_map] at h
  cases q : es[i]? with
  | none => rw [q] at h; cases h
  | some e => rw [q] at h; cases h; exact ⟨e, rfl, rfl⟩
theorem take_snoc {α : Type} {es : List α} {i : Nat} {e : α} (h : es[i]? = some e) : es.take (i + 1) = es.take i ++ [e] := by
  rw [List.take_add_one, h]; rfl
def backD (cs : List (Int × Int)) (d : Int × Int) : Int × Int := (d.1 - (cat cs d.2).2, d.2)
def keepD (cs : List (Int × Int)) (d : Int × Int) : Bool := decide ((cat cs d.2).1 ≤ d.1)
theorem below_ne2 {news : List (Addr × Obj)} {L : Addr} (h : ∀ p ∈ news, p.1 < L) : ∀ p ∈ news, p.1 ≠ L + 1 + 1 := fun p hp q => by
  have h1 : @LT.lt Nat _ p.1 L := h p hp
  have h2 : @Eq Nat p.1 (L + 1 + 1) := q
  omega
section
open PyProof.Rows.LCg PySem.Calls PySem.Spec
variable {prog : Program} {w : World} {A : Around} {E : Value → Shared → Prop} {s : Shared} {h₀ : Heap} {L : Addr} {m : Str → Option Value} {env : Env}
def RtStep (prog : Program) (w : World) (A : Around) (h₀ : Heap) (L : Addr) (m : Str → Option Value) (env : Env) (elt : Expr) (x : Str) (scope : Scope) (cl : List (Str × Addr)) (n T₀ : Nat) (J : Nat → List Value → List (Addr × Obj) → Nat → Prop) (s₂ : Shared) : Prop :=
  ∀ i ys nw t I oI C oC D m₂ h tk (E' : Value → Shared → Prop), i < n → T₀ ≤ t → t < tk → J i ys nw tk → NsObj oC m₂ → m₂ x = some (.int (i : Int) t) → Fr h₀ L h m → News h₀ L h ((I, oI) :: (C, oC) :: (D, lst ys) :: nw) → Off3 I C D nw → ((@Ne Nat I C) ∧ (@Ne Nat I D) ∧ (@Ne Nat C D)) →
    wpAny (model prog w) A (eval elt (compEnvC scope cl C env)) (CompEnd h₀ L m { s₂ with heap := h, toks := tk } I oI C oC D (lst ys) (fun _ => True) (fun y nw' => J (i + 1) (ys ++ [y]) nw' tk)) E' { s₂ with heap := h, toks := tk }
structure RtAt (h₀ : Heap) (L : Addr) (m : Str → Option Value) (n T₀ : Nat) (J : Nat → List Value → List (Addr × Obj) → Nat → Prop) (I C D : Addr) (h : Heap) (tk i : Nat) (ys : List Value) (oC : Obj) (mC : Str → Option Value) (nw : List (Addr × Obj)) : Prop where
  le : i ≤ n
  len : ys.length = i
  tok : T₀ ≤ tk
  fr : Fr h₀ L h m
  led : News h₀ L h ((I, ritO (i : Int) ((n : Int) - (i : Int)) 1) :: (C, oC) :: (D, lst ys) :: nw)
  ns : NsObj oC mC
  off : Off3 I C D nw
  inv : J i ys nw tk
/-- the turns of a comprehension over a range, told of the ledger that holds the iterator, the names and the list made -/
theorem loop_rt {elt iter : Expr} {x : Str} {px : Pos} {scope : Scope} {cl : List (Str × Addr)} {pos : Pos} {R : Result → Shared → Prop} {s₂ : Shared} {I C D : Addr} {n T₀ : Nat} {J : Nat → List Value → List (Addr × Obj) → Nat → Prop} {h : Heap} {tk : Nat} {oC : Obj} {mC : Str → Option Value} {nw : List (Addr × Obj)}
    (hh : A.handled = none) (hsz : n ≤ 1000) (mono : ∀ i ys nw a b, J i ys nw a → a ≤ b → J i ys nw b) (hkind : scope.kind = .function) (hx : scope.names.lookup x = some .local) (ne : (@Ne Nat I C) ∧ (@Ne Nat I D) ∧ (@Ne Nat C D))
    (step : RtStep prog w A h₀ L m env elt x scope cl n T₀ J s₂)
    (fin : ∀ h tk mC oC ys nw, Fr h₀ L h m → News h₀ L h ((C, oC) :: (D, lst ys) :: nw) → NsObj oC mC → Off3 I C D nw → J n ys nw tk → R (.ok .next) { s₂ with heap := h, toks := tk })
    (a : RtAt h₀ L m n T₀ J I C D h tk 0 [] oC mC nw) :
    codeAny (model prog w) A (.compLoop (.ListComp elt [⟨.Name x px, iter, [], 0⟩] scope pos) 0 (.ref I) (.ref D) (compEnvC scope cl C env)) R { s₂ with heap := h, toks := tk } := by
  refine codeAny_compLoop_tests (fun k s' => ∃ h tk i ys oC mC nw, s' = { s₂ with heap := h, toks := tk } ∧ k = n + 1 - i ∧ RtAt h₀ L m n T₀ J I C D h tk i ys oC mC nw) ?_ (n + 1) ⟨h, tk, 0, [], oC, mC, nw, rfl, rfl, a⟩
  clear a
  rintro _ _ ⟨h, tk, i, ys, oC, mC, nw, rfl, rfl, a⟩
  have zI := a.led _ (.head _)
  have zC := a.led _ (.tail _ (.head _))
  have zD := a.led _ (.tail _ (.tail _ (.head _)))
  have notI : ∀ p ∈ (C, oC) :: (D, lst ys) :: nw, p.1 ≠ I := List.forall_mem_cons.mpr ⟨Ne.symm ne.1, List.forall_mem_cons.mpr ⟨Ne.symm ne.2.1, fun p hp => (a.off.mem p hp).1⟩⟩
  by_cases hlt : i < n
  · refine wpAny_pyNext_range_item zI.1 (by omega) fun h2 hit hs => ?_
    have F2 := a.fr.change hs zI.2.1 zI.2.2
    have N2 : News h₀ L h2 ((I, ritO ((i : Int) + 1) ((n : Int) - (i : Int) - 1) 1) :: (C, oC) :: (D, lst ys) :: nw) := a.led.setHead notI hs hit
    refine wpAny_assign_Name (wpAny_storeName_local (lookup_relabel_local hx) (a.ns.ns (N2 _ (.tail _ (.head _))).1) (fun h3 hn hs3 => wpAny_tests_nil ?_) (by simp [compEnvC, relabel, hkind]))
    simp only [if_true]
    obtain ⟨oC3, eC, nC⟩ := ns_obj hn
    have N3 := N2.setSecond ne.1 (List.forall_mem_cons.mpr ⟨Ne.symm ne.2.2, fun p hp => (a.off.mem p hp).2.1⟩) hs3 eC
    refine wpAny_mono (wpAny_toks (step i ys nw tk I _ C oC3 D _ h3 (tk + 1 + 1) _ hlt a.tok (Nat.lt_add_right 1 (Nat.lt_succ_self _)) (mono _ _ _ _ _ a.inv (Nat.le_add_right _ 2)) nC (by simp) (F2.change hs3 zC.2.1 zC.2.2) N3 a.off ne)) (fun y s5 h5 => ?_) fun _ _ e => e.2
    obtain ⟨hle, h5, tk5, nw5, rfl, F5, N5, off5, _, J5⟩ := h5
    have hle5 : tk + 1 + 1 ≤ tk5 := hle
    refine append_at (hsz := by rw [List.size_toArray, a.len, sizeLine_eq]; omega) (N5 _ (.tail _ (.tail _ (.head _)))).1 fun h6 hs6 hD6 => ?_
    have N6 := News.setAt (own := [_, _]) N5 (List.forall_mem_cons.mpr ⟨ne.2.1, List.forall_mem_cons.mpr ⟨ne.2.2, List.forall_mem_nil _⟩⟩) (fun p hp => (off5.mem p hp).2.2) hs6 hD6
    rw [lst_snoc] at N6
    refine ⟨n + 1 - (i + 1), Nat.sub_lt_sub_left (Nat.lt_succ_of_lt hlt) (Nat.lt_succ_self i), h6, tk5, i + 1, ys ++ [y], oC3, _, nw5, rfl, rfl, ⟨hlt, by rw [List.length_append, a.len]; rfl, Nat.le_trans a.tok (Nat.le_trans (Nat.le_add_right _ 2) hle5), F5.change hs6 zD.2.1 zD.2.2, ?_, nC, off5, mono _ _ _ _ _ J5 hle5⟩⟩
    have e : ((i + 1 : Nat) : Int) = (i : Int) + 1 := rfl
    rw [e, ← Int.sub_sub]
    exact N6
  · have hin : i = n := Nat.le_antisymm a.le (Nat.not_lt.mp hlt)
    subst hin
    exact wpAny_pyNext_range_end hh zI.1 (Int.le_of_eq (Int.sub_self _)) fun h2 he => fin h2 tk mC oC ys nw (fr_keep a.fr (Ne.symm zI.2.1) zI.2.2 he) (news_keep (fun p hp => a.led p (.tail _ hp)) notI he) a.ns a.off a.inv
def RtSrc (prog : Program) (w : World) (A : Around) (h₀ : Heap) (L : Addr) (m : Str → Option Value) (env : Env) (elt : Expr) (x : Str) (scope : Scope) (cl : List (Str × Addr)) (Q : Value → Shared → Prop) (xv : Value) (s₁ : Shared) : Prop :=
  ∃ r n T₀ t u v news, ∃ J : Nat → List Value → List (Addr × Obj) → Nat → Prop, xv = .ref r ∧ A.handled = none ∧ Fr h₀ L s₁.heap m ∧ News h₀ L s₁.heap news ∧ (r, rngO 0 ((n : Nat) : Int) 1 t u v) ∈ news ∧ n ≤ 1000 ∧ T₀ ≤ s₁.toks ∧ (∀ i ys nw a b, J i ys nw a → a ≤ b → J i ys nw b) ∧ J 0 [] news s₁.toks ∧
    (∀ g, RtStep prog w A h₀ L m env elt x scope cl n T₀ J { s₁ with heap := g }) ∧ ∀ D ys nw h tk, Fr h₀ L h m → News h₀ L h ((D, lst ys) :: nw) → (∀ p ∈ nw, p.1 ≠ D) → J n ys nw tk → Q (.ref D) { s₁ with heap := h, toks := tk }
theorem ListComp_rt {elt iter : Expr} {x : Str} {px : Pos} {scope : Scope} {cl : List (Str × Addr)} {pos : Pos} {Q : Value → Shared → Prop} (F₀ : Fr h₀ L s.heap m)
    (hclos : closureFor scope env = pure cl) (hcell : ∀ y ∈ scope.names, y.2 ≠ .cell) (hkind : scope.kind = .function)
    (hnames : ∀ y ∈ scope.names, y.2 = .local → scope.names.lookup y.1 = some .local) (hx : scope.names.lookup x = some .local)
    (h : wpAny (model prog w) A (eval iter env) (RtSrc prog w A h₀ L m env elt x scope cl Q) E s)
    (hs : ∀ x, foldedSetIterable iter env x = pure x := by intro _; rfl) :
    wpAny (model prog w) A (eval (.ListComp elt [⟨.Name x px, iter, [], 0⟩] scope pos) env) Q E s := by
  rw [eval_ListComp]
  refine wpAny_comprehension_free (use := none) rfl hs hclos hkind hnames (wpAny_mono h (fun xv s₁ h₁ => ?_) fun _ _ e => e)
  obtain ⟨r, n, T₀, t, u, v, news, J, rfl, hh, F, N, hm, hn, hT, mono, hJ, step, fin⟩ := h₁
  refine iter_range_L F N hm (Int.natCast_nonneg _) (by omega) fun I g F' N' l1 => ?_
  refine wpAny_newObj_type ?_
  refine wpAny_newFunctionEnv hcell (fun y hy => nomatch hy) (fun h2 hns hsb => ?_) hkind
  obtain ⟨oC, mC, eC, nC⟩ : ∃ oC mC, h2.get? _ = some oC ∧ NsObj oC mC := let ⟨o, e, x⟩ := ns_obj hns; ⟨o, _, e, x⟩
  have FD := F'.push (lst [])
  have ND := N'.push F' (lst [])
  have NC := (ND.push FD _).setHead (fun p hp => Nat.ne_of_lt (Heap.lt_size (ND p hp).1)) hsb eC
  have zC := NC _ (.head _)
  have lt1 : ∀ p ∈ (I, ritO 0 (n : Int) 1) :: news, p.1 < g.objs.size := fun p hp => Heap.lt_size (N' p hp).1
  have lt2 : ∀ p ∈ (g.objs.size, lst []) :: (I, ritO 0 (n : Int) 1) :: news, p.1 < (g.push (lst [])).objs.size := fun p hp => Heap.lt_size (ND p hp).1
  have at0 : RtAt h₀ L m n T₀ J I (g.push (lst [])).objs.size g.objs.size h2 s₁.toks 0 [] oC mC news := by
    refine ⟨Nat.zero_le _, rfl, hT, (FD.push _).change hsb zC.2.1 zC.2.2, ?_, nC, Off3.of fun p hp => ⟨Nat.ne_of_lt (l1 p hp), Nat.ne_of_lt (lt2 p (.tail _ (.tail _ hp))), Nat.ne_of_lt (lt1 p (.tail _ hp))⟩, hJ⟩
    have e : (n : Int) - ((0 : Nat) : Int) = n := Int.sub_zero _
    rw [e]
    exact news_sub NC (by
      intro p hp
      rcases List.mem_cons.mp hp with rfl | hp
      · exact .tail _ (.tail _ (.head _))
      rcases List.mem_cons.mp hp with rfl | hp
      · exact .head _
      rcases List.mem_cons.mp hp with rfl | hp
      · exact .tail _ (.head _)
      · exact .tail _ (.tail _ (.tail _ hp)))
  have ne : (@Ne Nat I (g.push (lst [])).objs.size) ∧ (@Ne Nat I g.objs.size) ∧ (@Ne Nat (g.push (lst [])).objs.size g.objs.size) := ⟨Nat.ne_of_lt (lt2 _ (.tail _ (.head _))), Nat.ne_of_lt (lt1 _ (.head _)), Ne.symm (Nat.ne_of_lt (lt2 _ (.head _)))⟩
  refine codeAny_compStart_list (loop_rt (s₂ := { s₁ with heap := g }) hh hn mono hkind hx ne (step _) ?f at0) (wpAny_pyIter_rangeiter (NC _ (.tail _ (.tail _ (.head _)))).1 (loop_rt (s₂ := { s₁ with heap := g }) hh hn mono hkind hx ne (step _) ?f at0))
  intro h tk mC oC ys nw F6 N6 nC off j
  refine ⟨mC, nC.ns (N6 _ (.head _)).1, fun h7 hs7 => fin _ ys nw h7 tk (F6.change hs7 (N6 _ (.head _)).2.1 (N6 _ (.head _)).2.2) (news_keep (fun p hp => N6 p (.tail _ hp)) (List.forall_mem_cons.mpr ⟨Ne.symm ne.2.2, fun p hp => (off.mem p hp).2.1⟩) fun b o hb e => (hs7.2 b hb).trans e) (off1_mem off.one) j⟩
end
section
variable {prog : Program} {w : World} {A : Around} {E : Value → Shared → Prop} {s : Shared} {h₀ : Heap} {L : Addr} {news : List (Addr × Obj)} {m : Str → Option Value} {Q : Value → Shared → Prop} {l : Addr} {es : List En} {k : Nat} {n : Int} {t : Tok}
theorem len_EnT (N : News h₀ L s.heap news) (hm : (l, listOf (vals es).toArray k) ∈ news) (h2 : es.length ≤ 1000) (h : ∀ t tk, s.toks < tk → Q (.int (es.length : Int) t) { s with toks := tk }) :
    wpAny (model prog w) A (call (.builtin "len") [.ref l]) Q E s := by
  have e : (vals es).toArray.size = es.length := by rw [List.size_toArray]; exact vals_length es
  refine PyProof.Rows.len_list (N.isList hm) (by rw [e]; omega) ?_
  rw [e]
  exact h _ _ (by omega)
theorem range1_LT (F : Fr h₀ L s.heap m) (N : News h₀ L s.heap news)
    (h : ∀ r h' tk t u v, s.toks ≤ tk → Fr h₀ L h' m → News h₀ L h' ((r, rngO 0 n 1 t u v) :: news) → (∀ p ∈ news, p.1 < r) → Q (.ref r) { s with heap := h', toks := tk }) : wpAny (model prog w) A (call (.type "range") [.int n t]) Q E s :=
  call_range_1 (h _ _ _ _ _ _ (by omega) (F.push _) (N.push F _) fun p hp => Heap.lt_size (N p hp).1)
end
section
variable {prog : Program} {w : World} {A A₀ : Around} {s : Shared} {K : Frag} {L : Addr} {h₀ base : Heap} {m mg mb : Str → Option Value} {news : List (Addr × Obj)} {p : Program} {loose : List Str} {mean : ExcName → Option Value}
theorem hid_none {h : Heap} {as : List Addr} {a : Addr} (e : h.get? a = none) : (hideAll h as).get? a = none := Option.eq_none_iff_forall_ne_some.mpr fun o q => by rw [of_hideAll _ q] at e; cases e
/-- the kit's code_defC, told that the tokens at the body's start are no fewer than at the call -/
theorem code_cellsT {env : Env} {outer : List Env} {R : Result → Shared → Prop} {name qual : Str} {params : Arguments} {body : List Stmt} {scope : Scope} {dV kV doc pm cdv ct oc : Value} {an od : Option Addr} {osl : Array (Option Value)} {f : Addr} {args : Args} {binds : List (Str × Value)}
    (B : Below A₀ base outer h₀) (F : Fr h₀ L s.heap m) (X₀ : K.In h₀) (N : News h₀ L s.heap news) (T : Top p loose mean mg mb h₀) (hA : A.frames = some (env :: outer)) (hf : env.frame = some L) (hke : env.scope.kind = .function)
    (ho : K.lookup f = some ⟨oc, od, .func (fnOf name qual params body scope dV kV doc pm an cdv ct), osl⟩) (hcd : codeIn K cdv qual = true) (hroom : A.depth < recursionLimit)
    (hbind : BindsTo s (fnOf name qual params body scope dV kV doc pm an cdv ct) args binds) (hkind : (binds.all fun y => scope.names.lookup y.1 == some .local || scope.names.lookup y.1 == some .cell) = true)
    (hnd : ((cellsFrom 0 scope.names []).map (·.1)).Nodup)
    (h : ∀ g L' h₁ tk cells, s.toks ≤ tk → Fr h₀ L g m → Fr g L' h₁ (bindL (envOfC qual scope L' f cdv).kindOf binds fun _ => none) → News g L' h₁ (cells ++ news) →
      CellsAre (bindC (envOfC qual scope L' f cdv).kindOf binds fun _ => none) (cellsFrom (L' + 1) scope.names []) cells → Below A base (env :: outer) g → K.In g → Top p loose mean mg mb g → (∀ p ∈ news, p.1 < L') →
      wpAny (model prog w) (A.deeper (envOfC qual scope L' f cdv)) (execs body (envOfC qual scope L' f cdv))
        (fun fl s' => LeaveK h₀ L m g R (match fl with | .ret v => v | _ => .none) s')
        (fun e s' => wpAny (model prog w) (A.deeper (envOfC qual scope L' f cdv)) (leaving (envOfC qual scope L' f cdv) e) (fun _ s'' => R (.error e) s'') (fun e' s'' => R (.error e') s'') s')
        { s with heap := h₁, toks := tk })
    (hco : scope.isCoroutine = false) (hgen : scope.isGenerator = false) (hk : scope.kind = .function) : codeAny (model prog w) A (.call (.ref f) args) R s := by
  have G := groundX (R := R) B F N hA hf hke
  have XG := X₀.keeps F.keep
  refine codeAny_call_function hroom (XG _ _ ho) rfl hco hgen rfl (codeRec_of XG hcd) (hbind _ _ _ _ (wpAny_with_toks (n := s.toks) (Nat.le_refl _) (wpAny_newFunctionEnv_cells hk (kindsX hkind _) ?_)))
  rintro _ rfl s' x le
  have keep := x.toInCall.keep
  refine ⟨T.nolimit.keeps fun b o e => keep b o (F.keep b o e), codeAny_func ?_⟩
  have dn : ((cellsFrom (s.heap.objs.size + 1) scope.names []).map (·.1)).Nodup := by rw [cellsFrom_names scope.names (s.heap.objs.size + 1) 0 [] [] rfl]; exact hnd
  have CN := Cl.news (h₀ := s.heap) (Nat.le_refl _) fun n c hm => ⟨x.cell n c (lookup_of_mem_nodup dn hm), x.above n c hm⟩
  obtain ⟨h1, tk, rfl, _⟩ := x.done
  obtain ⟨cells, NC, Y⟩ := CN
  refine wpAny_mono (h _ _ h1 tk cells le G.1 ⟨x.toInCall.ns, fun b o e => keep b o (of_hideAll _ e), Nat.le_of_eq (hideAll_size _ _)⟩ ?_ Y G.2.1 (X₀.keeps G.2.2.1) (T.keeps G.2.2.1) fun p hp => Heap.lt_size (N p hp).1) (fun fl s' => G.2.2.2 _ s') fun _ _ y => y
  exact fun p hp => (List.mem_append.mp hp).elim (fun hp => ⟨(NC p hp).1, (NC p hp).2.1, hid_none (NC p hp).2.2⟩) fun hp => ⟨keep _ _ (N p hp).1, Nat.ne_of_lt (Heap.lt_size (N p hp).1), hideAll_none _ (List.mem_map_of_mem hp)⟩
end
section
variable {prog : Program} {w : World} {A : Around} {E : Value → Shared → Prop} {Q : Flow → Shared → Prop} {s : Shared} {env : Env} {h₀ : Heap}
theorem for_list {σ : Type} {x : Str} {px : Pos} {body : List Stmt} {I l : Addr} {its : List Value} {nl : Nat} {m₀ : Str → Option Value} {oI : Obj} (Hd Tl : σ → List (Addr × Obj)) (ps : σ → List (Str × Value)) (P : Nat → σ → Prop) (c₀ : σ)
    (hh : A.handled = none) (hx : env.kindOf x = some .local) (hp : (env.scope.kind == .class || (env.scope.kind == .module && env.locals != env.globals)) = false)
    (hl : ∀ c, (l, listOf its.toArray nl) ∈ Hd c ++ Tl c) (hI : oI.cls = .type "list_iterator" ∧ oI.data = .fields #[.ref l, .int ((0 : Nat) : Int) 0])
    (F : Fr h₀ env.locals s.heap m₀) (N : News h₀ env.locals s.heap (Hd c₀ ++ (I, oI) :: Tl c₀)) (hoff : ∀ p ∈ Hd c₀ ++ Tl c₀, p.1 ≠ I) (hk : ∀ p ∈ ps c₀, m₀ p.1 = some p.2) (hP : P 0 c₀)
    (turn : ∀ i c u h tk v io, its[i]? = some v → P i c → (∀ p ∈ Hd c ++ Tl c, p.1 ≠ I) → Fr h₀ env.locals h (fun y => if y = x then some v else kstB u (ps c) y) → News h₀ env.locals h (Hd c ++ (I, io) :: Tl c) →
      wpAny (model prog w) A (execs body env) (FoPost h₀ env.locals s I io Hd Tl ps (P (i + 1)) Q) E { s with heap := h, toks := tk })
    (done : ∀ c u h tk, P its.length c → Fr h₀ env.locals h (kstB u (ps c)) → News h₀ env.locals h (Hd c ++ Tl c) → Q .next { s with heap := h, toks := tk })
    (hE : PassesOwn (model prog w) A env E := by passes_own) :
    codeAny (model prog w) A (.forLoop (.Name x px) (.ref I) body [] env) (fun r s' => match r with | .ok f => Q f s' | .error e => cameBackBy (model prog w) A env E e s') s := by
  have z := N (I, oI) (by simp)
  refine codeAny_forLoop
    (fun k s' => ∃ h' tk m' c i io, s' = { s with heap := h', toks := tk } ∧ (io.cls = .type "list_iterator" ∧ io.data = .fields #[.ref l, .int ((i : Nat) : Int) 0]) ∧ Fr h₀ env.locals h' m' ∧ News h₀ env.locals h' (Hd c ++ (I, io) :: Tl c) ∧ (∀ p ∈ Hd c ++ Tl c, p.1 ≠ I) ∧ (∀ p ∈ ps c, m' p.1 = some p.2) ∧ P i c ∧ i ≤ its.length ∧ k = its.length + 1 - i) ?_ (its.length + 1)
    ⟨s.heap, s.toks, m₀, c₀, 0, oI, rfl, hI, F, N, hoff, hk, hP, Nat.zero_le _, rfl⟩
  rintro k s' ⟨h', tk, m', c, i, io, rfl, hio, F', N', off', hk', hP', hi, rfl⟩
  have hit : h'.IsListIter I l i := ⟨io, (N' (I, io) (by simp)).1, hio.1, hio.2⟩
  have hls : h'.IsList l its.toArray := by
    have hm : (l, listOf its.toArray nl) ∈ Hd c ++ (I, io) :: Tl c := by
      rcases List.mem_append.mp (hl c) with q | q
      · exact List.mem_append_left _ q
      · exact List.mem_append_right _ (.tail _ q)
    exact ⟨_, (N' _ hm).1, rfl, nl, rfl⟩
  by_cases hlt : i < its.length
  · have hv : its.toArray[i]? = some its[i] := by simp [hlt]
    refine wpAny_pyNext_list_item hit hls hv fun h₁ hit₁ hs₁ => ?_
    obtain ⟨io₁, hI₁, hc₁, hd₁⟩ := hit₁
    have hk₁ : ∀ b o, b ≠ I → h'.get? b = some o → h₁.get? b = some o := fun b o hb e => hs₁.extBut b o hb e
    have F₁ := fr_keep F' (Ne.symm z.2.1) z.2.2 hk₁
    have N₁ := news_iter N' off' hI₁ hk₁
    refine wpAny_assign_Name (wpAny_storeName_local hx F₁.ns (fun h₂ hn₂ hs₂ => ?_) hp)
    have F₂ := F₁.set hn₂ hs₂
    rw [← kstB_self hk'] at F₂
    refine wpAny_passesOwn hE (wpAny_mono (turn i c _ h₂ _ _ io₁ (List.getElem?_eq_getElem hlt) hP' off' F₂ (N₁.set hs₂)) (fun f s₃ h₃ => ?_) fun _ _ e => e)
    cases f with
    | ret v => exact h₃
    | brk => exact h₃
    | cont =>
      obtain ⟨c', h3, tk3, m3, rfl, F3, N3, off3, hk3, hP3⟩ := h₃
      exact ⟨its.length + 1 - (i + 1), by omega, h3, tk3, m3, c', i + 1, io₁, rfl, ⟨hc₁, hd₁⟩, F3, N3, off3, hk3, hP3, hlt, rfl⟩
    | next =>
      obtain ⟨c', h3, tk3, m3, rfl, F3, N3, off3, hk3, hP3⟩ := h₃
      exact ⟨its.length + 1 - (i + 1), by omega, h3, tk3, m3, c', i + 1, io₁, rfl, ⟨hc₁, hd₁⟩, F3, N3, off3, hk3, hP3, hlt, rfl⟩
  · have hin : i = its.length := by omega
    subst hin
    refine wpAny_pyNext_list_end hh hit hls (by simp) fun h₁ he₁ => wpAny_execs_nil ?_
    have hk₁ : ∀ b o, b ≠ I → h'.get? b = some o → h₁.get? b = some o := fun b o hb e => he₁ b o hb e
    have F₁ := fr_keep F' (Ne.symm z.2.1) z.2.2 hk₁
    rw [← kstB_self hk'] at F₁
    exact done c _ h₁ tk hP' F₁ (news_keep (news_drop N') off' hk₁)
theorem iter_list_L {L l : Addr} {news : List (Addr × Obj)} {m : Str → Option Value} {its : List Value} {nl : Nat} {Q : Value → Shared → Prop} (F : Fr h₀ L s.heap m) (N : News h₀ L s.heap news) (hm : (l, listOf its.toArray nl) ∈ news)
    (h : ∀ I h' o, (o.cls = .type "list_iterator" ∧ o.data = .fields #[.ref l, .int ((0 : Nat) : Int) 0]) → Fr h₀ L h' m → News h₀ L h' ((I, o) :: news) → (∀ p ∈ news, p.1 < I) → Q (.ref I) { s with heap := h' }) : wpAny (model prog w) A (pyIter (.ref l)) Q E s :=
  wpAny_pyIter_list ⟨_, (N _ hm).1, rfl, nl, rfl⟩ (h _ _ _ ⟨rfl, rfl⟩ (F.push _) (N.push F _) fun p hp => Heap.lt_size (N p hp).1)
end
section
variable {M : Model} {A : Around} {E : Value → Shared → Prop} {s : Shared} {p q : Int} {t u : Tok} {Q : Value → Shared → Prop}
theorem is_int_L (ht : 0 < t) (hu : 0 < u) (hne : t ≠ u) (h0 : 0 ≤ q) (h1 : q ≤ 200) (h : Q (.bool (decide (p = q))) s) : wpAny M A (compareOp .Is (.int p t) (.int q u)) Q E s := by
  have ht0 : (t == 0 || u == 0) = false := by
    have h2 : (t == 0) = false := beq_eq_false_iff_ne.mpr (Nat.ne_of_gt ht)
    have h3 : (u == 0) = false := beq_eq_false_iff_ne.mpr (Nat.ne_of_gt hu)
    rw [h2, h3]; rfl
  show wpAny M A (do return .bool (← isSame (.int p t) (.int q u))) Q E s
  refine wpAny_bind ?_
  show wpAny M A (if (p == q && smallInt p) = true then isSame.cachedInt t u else isSame.created (p == q) t u) _ E s
  by_cases hpq : p = q
  · subst hpq
    have hs : smallInt p = true := by simp [smallInt]; omega
    rw [beq_self_eq_true, hs]
    simp only [Bool.and_self, if_true]
    unfold isSame.cachedInt
    rw [ht0]
    simp only [Bool.false_eq_true, if_false]
    refine wpAny_bind (wpAny_rule (wpAny_pure (wpAny_pure ?_)))
    simpa using h
  · have hb : (p == q) = false := beq_eq_false_iff_ne.mpr hpq
    rw [hb]
    simp only [Bool.false_and, Bool.false_eq_true, if_false]
    unfold isSame.created
    have htu : (t == u) = false := beq_eq_false_iff_ne.mpr hne
    rw [ht0, htu]
    simp only [Bool.false_eq_true, if_false, Bool.not_false, if_true]
    refine wpAny_pure (wpAny_pure ?_)
    simpa [hpq] using h
end
def intV (ps : List (Int × Tok)) : List Value := ps.map fun p => .int p.1 p.2
theorem cnt_yes {qs : List (Int × Tok)} {i : Nat} {p : Int × Tok} {q : Int} (hp : qs[i]? = some p) (h : p.1 = q) : (((qs.take (i + 1)).countP (fun p => decide (p.1 = q)) : Nat) : Int) = (((qs.take i).countP (fun p => decide (p.1 = q)) : Nat) : Int) + 1 := by
  rw [take_snoc hp, List.countP_append, List.countP_singleton, if_pos (decide_eq_true h)]; push_cast; rfl
theorem cnt_no {qs : List (Int × Tok)} {i : Nat} {p : Int × Tok} {q : Int} (hp : qs[i]? = some p) (h : ¬ p.1 = q) : (((qs.take (i + 1)).countP (fun p => decide (p.1 = q)) : Nat) : Int) = (((qs.take i).countP (fun p => decide (p.1 = q)) : Nat) : Int) := by
  rw [take_snoc hp, List.countP_append, List.countP_singleton, if_neg (by simpa using h)]; simp
theorem step_lo {ks : List En} {i : Nat} {e : En} (he : ks[i]? = some e) (h : ∀ e ∈ ks, 0 < e.y ∧ e.y ≤ 10) : 0 ≤ e.y := by have := (h e (List.mem_of_getElem? he)).1; omega
theorem step_hi {ks : List En} {i : Nat} {e : En} (he : ks[i]? = some e) (h : ∀ e ∈ ks, 0 < e.y ∧ e.y ≤ 10) : e.y ≤ 1000 := by have := (h e (List.mem_of_getElem? he)).2; omega
theorem step_pos {ks : List En} {i : Nat} {e : En} (he : ks[i]? = some e) (h : ∀ e ∈ ks, 0 < e.y ∧ e.y ≤ 10) : 0 < e.y := (h e (List.mem_of_getElem? he)).1
theorem step_lt {ks : List En} {i : Nat} {e : En} (he : ks[i]? = some e) (h : ∀ e ∈ ks, 0 < e.y ∧ e.y ≤ 10) : e.y < 1000 := by have := (h e (List.mem_of_getElem? he)).2; omega
theorem cnt_hi {qs : List (Int × Tok)} {f : Int × Tok → Bool} (h : qs.length ≤ 1000) : ((qs.countP f : Nat) : Int) ≤ 1000 := by have := List.countP_le_length (p := f) (l := qs); omega
def nextD (cs : List (Int × Int)) (places : List Int) (n : Nat) : List (Int × Int) := (List.range n).map fun (j : Nat) => ((cat cs (j : Int)).1 + (cat cs (j : Int)).2 * ((places.count (j : Int) : Nat) : Int), (j : Int))
theorem cnt_places {ts : List En} {q : Int} : (ts.map (fun e => (e.y, e.v))).countP (fun p => decide (p.1 = q)) = (ts.map En.y).count q := by
  rw [List.countP_map, List.count, List.countP_map]
  congr 1
section
variable {α : Type}
theorem set_perm_cons {x : α} : ∀ {l : List α} {i : Nat} (h : i < l.length), (l[i] :: l.set i x).Perm (x :: l)
  | a :: l, 0, _ => List.Perm.swap _ _ _
  | a :: l, i + 1, h => by
    have ih := set_perm_cons (x := x) (l := l) (i := i) (by simpa using h)
    show ((a :: l)[i + 1] :: a :: l.set i x).Perm (x :: a :: l)
    refine (List.Perm.swap _ _ _).trans (((List.perm_cons a).mpr ?_).trans (List.Perm.swap _ _ _))
    simpa using ih
theorem set_set_perm {l : List α} {i j : Nat} {p e : α} (hi : i < l.length) (hj : l[j]? = some p) (hij : i ≠ j) : ((l.set i p).set j e).Perm (l.set i e) := by
  obtain ⟨hj1, hj2⟩ := List.getElem?_eq_some_iff.mp hj
  have h1 := set_perm_cons (x := p) hi
  have h2 := set_perm_cons (x := e) (l := l.set i p) (i := j) (by simpa using hj1)
  have h3 : (l.set i p)[j]'(by simpa using hj1) = p := by rw [List.getElem_set_ne hij]; exact hj2
  rw [h3] at h2
  have h4 := set_perm_cons (x := e) hi
  have h5 : (p :: l[i] :: (l.set i p).set j e).Perm (p :: e :: l) :=
    (List.Perm.swap _ _ _).trans (((List.perm_cons _).mpr h2).trans ((List.Perm.swap _ _ _).trans (((List.perm_cons _).mpr h1).trans (List.Perm.swap _ _ _))))
  exact (List.perm_cons _).mp (((List.perm_cons _).mp h5).trans h4.symm)
theorem set_self_perm {l : List α} {i : Nat} {p : α} (hi : l[i]? = some p) : l.set i p = l := by
  obtain ⟨h1, h2⟩ := List.getElem?_eq_some_iff.mp hi
  rw [← h2]; exact List.set_getElem_self h1

theorem sdLoop_perm (lt : α → α → Bool) (i : Nat) (e : α) : ∀ (k : Nat) (es : List α), k < es.length → (sdLoop lt i e k es).Perm (es.set k e) := by
  intro k
  induction k using Nat.strongRecOn with
  | _ k ih =>
    intro es hk
    rw [sdLoop]
    split
    · rename_i hik
      split
      · rename_i p hp
        split
        · exact (ih ((k - 1) / 2) (o_par hik) (es.set k p) (by rw [List.length_set]; exact o_parn hk)).trans (set_set_perm hk hp (o_parne hik))
        · exact List.Perm.refl _
      · rename_i hp
        have := List.getElem?_eq_none_iff.mp hp
        exact absurd (o_parn hk) (Nat.not_lt.mpr this)
    · exact List.Perm.refl _
theorem suLoop_spec (lt : α → α → Bool) : ∀ (d k : Nat) (es : List α), es.length - k = d → k < es.length → ∀ e, (suLoop lt k es).1 < es.length ∧ (suLoop lt k es).2.length = es.length ∧ ((suLoop lt k es).2.set (suLoop lt k es).1 e).Perm (es.set k e) := by
  intro d
  induction d using Nat.strongRecOn with
  | _ d ih =>
    intro k es hd hk e
    rw [suLoop]
    split
    · rename_i hlt
      split
      · rename_i a b ha hb
        have hb1 := (List.getElem?_eq_some_iff.mp hb).1
        split
        · obtain ⟨h1, h2, h3⟩ := ih (es.length - (2 * k + 1)) (o_dec hd hk (o_l k)) (2 * k + 1) (es.set k a) (by rw [List.length_set]) (by rw [List.length_set]; exact hlt) e
          rw [List.length_set] at h1 h2
          exact ⟨h1, h2, h3.trans (set_set_perm hk ha (Nat.ne_of_lt (o_l k)))⟩
        · obtain ⟨h1, h2, h3⟩ := ih (es.length - (2 * k + 2)) (o_dec hd hk (o_r k)) (2 * k + 2) (es.set k b) (by rw [List.length_set]) (by rw [List.length_set]; exact hb1) e
          rw [List.length_set] at h1 h2
          exact ⟨h1, h2, h3.trans (set_set_perm hk hb (Nat.ne_of_lt (o_r k)))⟩
      · rename_i a ha hb
        obtain ⟨h1, h2, h3⟩ := ih (es.length - (2 * k + 1)) (o_dec hd hk (o_l k)) (2 * k + 1) (es.set k a) (by rw [List.length_set]) (by rw [List.length_set]; exact hlt) e
        rw [List.length_set] at h1 h2
        exact ⟨h1, h2, h3.trans (set_set_perm hk ha (Nat.ne_of_lt (o_l k)))⟩
      · exact ⟨hk, rfl, List.Perm.refl _⟩
    · exact ⟨hk, rfl, List.Perm.refl _⟩
theorem sdown_perm (lt : α → α → Bool) (es : List α) (i k : Nat) : (sdown lt es i k).Perm es := by
  unfold sdown
  split
  · rename_i e he
    have := sdLoop_perm lt i e k es (List.getElem?_eq_some_iff.mp he).1
    rwa [set_self_perm he] at this
  · exact List.Perm.refl _
theorem sup_perm (lt : α → α → Bool) (es : List α) (k : Nat) : (sup lt es k).Perm es := by
  unfold sup
  split
  · rename_i e he
    refine (sdown_perm ..).trans ?_
    have := (suLoop_spec lt _ k es rfl (List.getElem?_eq_some_iff.mp he).1 e).2.2
    rwa [set_self_perm he] at this
  · exact List.Perm.refl _
theorem sup_length (lt : α → α → Bool) (es : List α) (k : Nat) : (sup lt es k).length = es.length := (sup_perm lt es k).length_eq

def hfyN (lt : α → α → Bool) : Nat → List α → List α
  | 0, es => es
  | k + 1, es => hfyN lt k (sup lt es k)
def hfy (lt : α → α → Bool) (es : List α) : List α := hfyN lt (es.length / 2) es
theorem hfyN_perm (lt : α → α → Bool) : ∀ (k : Nat) (es : List α), (hfyN lt k es).Perm es
  | 0, _ => List.Perm.refl _
  | k + 1, es => (hfyN_perm lt k _).trans (sup_perm lt es k)
theorem hfy_perm (lt : α → α → Bool) (es : List α) : (hfy lt es).Perm es := hfyN_perm lt _ es

structure Ord (lt : α → α → Bool) : Prop where
  tr : ∀ {a b c}, lt b a = false → lt c b = false → lt c a = false
  as : ∀ {a b}, lt a b = true → lt b a = false
theorem Ord.rf {lt : α → α → Bool} (O : Ord lt) (a : α) : lt a a = false := by
  cases h : lt a a with
  | false => rfl
  | true => exact (O.as h).symm.trans h |>.symm ▸ rfl

def HeapFrom (lt : α → α → Bool) (s : Nat) (es : List α) : Prop := ∀ p c a b, s ≤ p → (c = 2 * p + 1 ∨ c = 2 * p + 2) → es[p]? = some a → es[c]? = some b → lt b a = false
inductive Desc (i : Nat) : Nat → Prop
  | refl : Desc i i
  | l {k : Nat} : Desc i k → Desc i (2 * k + 1)
  | r {k : Nat} : Desc i k → Desc i (2 * k + 2)
theorem Desc.le {i k : Nat} (h : Desc i k) : i ≤ k := by
  induction h with
  | refl => exact Nat.le_refl _
  | l _ ih => exact Nat.le_trans ih (Nat.le_of_lt (o_l _))
  | r _ ih => exact Nat.le_trans ih (Nat.le_of_lt (o_r _))
theorem Desc.up {i k : Nat} (h : Desc i k) (hk : i < k) : Desc i ((k - 1) / 2) := by
  cases h with
  | refl => exact absurd hk (Nat.lt_irrefl _)
  | @l k h => rw [← o_of (x := k) (.inl rfl)]; exact h
  | @r k h => rw [← o_of (x := k) (.inr rfl)]; exact h

theorem sdLoop_heap {lt : α → α → Bool} (O : Ord lt) (i : Nat) (e : α) : ∀ (k : Nat) (es : List α), k < es.length → Desc i k → HeapFrom lt i es → (∀ c b, (c = 2 * k + 1 ∨ c = 2 * k + 2) → es[c]? = some b → lt b e = false) → HeapFrom lt i (sdLoop lt i e k es) := by
  intro k
  induction k using Nat.strongRecOn with
  | _ k ih =>
    intro es hk hD hH hC
    rw [sdLoop]
    split
    · rename_i hik
      have hq : (k - 1) / 2 < es.length := o_parn hk
      have hqk := o_ch hik
      have hDq := hD.up hik
      have hqi := hDq.le
      obtain ⟨ek, hek⟩ : ∃ ek, es[k]? = some ek := ⟨_, List.getElem?_eq_getElem hk⟩
      split
      · rename_i p hp
        split
        · rename_i hl
          refine ih ((k - 1) / 2) (o_par hik) (es.set k p) (by rw [List.length_set]; exact hq) hDq ?_ ?_
          · intro x c a b hx hc ha hb
            by_cases hxk : x = k
            · subst hxk
              rw [List.getElem?_set_self hk] at ha
              cases ha
              rw [List.getElem?_set_ne (Nat.ne_of_lt (o_chn hc))] at hb
              have h1 := hH _ _ _ _ hx hc hek hb
              have h2 := hH _ _ _ _ hqi hqk hp hek
              exact O.tr h2 h1
            · rw [List.getElem?_set_ne (Ne.symm hxk)] at ha
              by_cases hck : c = k
              · subst hck
                rw [List.getElem?_set_self hk] at hb
                cases hb
                have e1 := o_of hc
                subst e1
                rw [hp] at ha
                cases ha
                exact O.rf _
              · rw [List.getElem?_set_ne (Ne.symm hck)] at hb
                exact hH _ _ _ _ hx hc ha hb
          · intro c b hc hb
            by_cases hck : c = k
            · subst hck
              rw [List.getElem?_set_self hk] at hb
              cases hb
              exact O.as hl
            · rw [List.getElem?_set_ne (Ne.symm hck)] at hb
              exact O.tr (O.as hl) (hH _ _ _ _ hqi hc hp hb)
        · rename_i hl
          intro x c a b hx hc ha hb
          by_cases hxk : x = k
          · subst hxk
            rw [List.getElem?_set_self hk] at ha
            cases ha
            rw [List.getElem?_set_ne (Nat.ne_of_lt (o_chn hc))] at hb
            exact hC _ _ hc hb
          · rw [List.getElem?_set_ne (Ne.symm hxk)] at ha
            by_cases hck : c = k
            · subst hck
              rw [List.getElem?_set_self hk] at hb
              cases hb
              have e1 := o_of hc
              subst e1
              rw [hp] at ha
              cases ha
              simpa using hl
            · rw [List.getElem?_set_ne (Ne.symm hck)] at hb
              exact hH _ _ _ _ hx hc ha hb
      · exact hH
    · rename_i hik
      intro x c a b hx hc ha hb
      by_cases hxk : x = k
      · subst hxk
        rw [List.getElem?_set_self hk] at ha
        cases ha
        rw [List.getElem?_set_ne (Nat.ne_of_lt (o_chn hc))] at hb
        exact hC _ _ hc hb
      · rw [List.getElem?_set_ne (Ne.symm hxk)] at ha
        rw [List.getElem?_set_ne (Nat.ne_of_lt (Nat.lt_of_le_of_lt (Nat.le_trans (Nat.not_lt.mp hik) hx) (o_chn hc)))] at hb
        exact hH _ _ _ _ hx hc ha hb
theorem sdLoop_set (lt : α → α → Bool) (i : Nat) (e x : α) (k : Nat) (es : List α) : sdLoop lt i e k (es.set k x) = sdLoop lt i e k es := by
  rw [sdLoop]
  conv => rhs; rw [sdLoop]
  split
  · rename_i hik
    rw [List.getElem?_set_ne (o_parne hik)]
    split
    · simp only [List.set_set]
    · rename_i _ hp
      have h1 := List.getElem?_eq_none_iff.mp hp
      rw [List.set_eq_of_length_le (Nat.le_trans h1 (Nat.le_of_lt (o_par hik)))]
  · rw [List.set_set]
theorem suLoop_heap {lt : α → α → Bool} (O : Ord lt) (i : Nat) : ∀ (d k : Nat) (es : List α), es.length - k = d → k < es.length → Desc i k → HeapFrom lt (i + 1) es → (k ≠ i → HeapFrom lt i es) →
    Desc i (suLoop lt k es).1 ∧ es.length ≤ 2 * (suLoop lt k es).1 + 1 ∧ HeapFrom lt (i + 1) (suLoop lt k es).2 ∧ ((suLoop lt k es).1 ≠ i → HeapFrom lt i (suLoop lt k es).2) := by
  intro d
  induction d using Nat.strongRecOn with
  | _ d ih =>
    intro k es hd hk hD h1 h2
    have hik := hD.le
    have step : ∀ c a, (c = 2 * k + 1 ∨ c = 2 * k + 2) → es[c]? = some a → (∀ c' b, (c' = 2 * k + 1 ∨ c' = 2 * k + 2) → es[c']? = some b → lt b a = false) → HeapFrom lt i (es.set k a) := by
      intro c a hc ha hmin x c' y b hx hc' hy hb
      by_cases hxk : x = k
      · subst hxk
        rw [List.getElem?_set_self hk] at hy
        cases hy
        rw [List.getElem?_set_ne (Nat.ne_of_lt (o_chn hc'))] at hb
        exact hmin _ _ hc' hb
      · rw [List.getElem?_set_ne (Ne.symm hxk)] at hy
        by_cases hck : c' = k
        · subst hck
          rw [List.getElem?_set_self hk] at hb
          cases hb
          have hki : c' ≠ i := Nat.ne_of_gt (Nat.lt_of_le_of_lt hx (o_chn hc'))
          obtain ⟨ek, hek⟩ : ∃ ek, es[c']? = some ek := ⟨_, List.getElem?_eq_getElem hk⟩
          exact O.tr (h2 hki _ _ _ _ hx hc' hy hek) (h2 hki _ _ _ _ hik hc hek ha)
        · rw [List.getElem?_set_ne (Ne.symm hck)] at hb
          by_cases hki : k = i
          · exact h1 _ _ _ _ (Nat.lt_of_le_of_ne hx fun q => hxk (q.symm.trans hki.symm)) hc' hy hb
          · exact h2 hki _ _ _ _ hx hc' hy hb
    have up : ∀ es' : List α, HeapFrom lt i es' → HeapFrom lt (i + 1) es' := fun es' h x c a b hx => h x c a b (Nat.le_of_succ_le hx)
    rw [suLoop]
    split
    · rename_i hlt
      split
      · rename_i a b ha hb
        have hb1 := (List.getElem?_eq_some_iff.mp hb).1
        split
        · rename_i hl
          have H := step _ a (.inl rfl) ha (by
            rintro c' b' (rfl | rfl) hb'
            · rw [ha] at hb'; cases hb'; exact O.rf _
            · rw [hb] at hb'; cases hb'; exact O.as hl)
          have := ih (es.length - (2 * k + 1)) (o_dec hd hk (o_l k)) (2 * k + 1) (es.set k a) (by rw [List.length_set]) (by rw [List.length_set]; exact hlt) hD.l (up _ H) (fun _ => H)
          rwa [List.length_set] at this
        · rename_i hl
          have H := step _ b (.inr rfl) hb (by
            rintro c' b' (rfl | rfl) hb'
            · rw [ha] at hb'; cases hb'; simpa using hl
            · rw [hb] at hb'; cases hb'; exact O.rf _)
          have := ih (es.length - (2 * k + 2)) (o_dec hd hk (o_r k)) (2 * k + 2) (es.set k b) (by rw [List.length_set]) (by rw [List.length_set]; exact hb1) hD.r (up _ H) (fun _ => H)
          rwa [List.length_set] at this
      · rename_i a ha hb
        have H := step _ a (.inl rfl) ha (by
          rintro c' b' (rfl | rfl) hb'
          · rw [ha] at hb'; cases hb'; exact O.rf _
          · rw [hb] at hb'; cases hb')
        have := ih (es.length - (2 * k + 1)) (o_dec hd hk (o_l k)) (2 * k + 1) (es.set k a) (by rw [List.length_set]) (by rw [List.length_set]; exact hlt) hD.l (up _ H) (fun _ => H)
        rwa [List.length_set] at this
      · rename_i ha
        have := List.getElem?_eq_none_iff.mp ha
        exact absurd hlt (Nat.not_lt.mpr this)
    · rename_i hlt
      exact ⟨hD, Nat.not_lt.mp hlt, h1, h2⟩
theorem sup_heap {lt : α → α → Bool} (O : Ord lt) {i : Nat} {es : List α} (h : HeapFrom lt (i + 1) es) : HeapFrom lt i (sup lt es i) := by
  unfold sup
  split
  · rename_i e he
    have hi := (List.getElem?_eq_some_iff.mp he).1
    obtain ⟨g1, g2, g3⟩ := suLoop_spec lt _ i es rfl hi e
    obtain ⟨a1, a2, a3, a4⟩ := suLoop_heap O i _ i es rfl hi .refl h (fun q => absurd rfl q)
    generalize suLoop lt i es = r at g1 g2 g3 a1 a2 a3 a4
    obtain ⟨k, es'⟩ := r
    dsimp only at g1 g2 g3 a1 a2 a3 a4 ⊢
    have H0 : HeapFrom lt i es' := by
      by_cases hki : k = i
      · intro x c a b hx hc ha hb
        by_cases hxi : x = i
        · have := (List.getElem?_eq_some_iff.mp hb).1
          omega
        · exact a3 _ _ _ _ (Nat.lt_of_le_of_ne hx (Ne.symm hxi)) hc ha hb
      · exact a4 hki
    unfold sdown
    rw [List.getElem?_set_self (g2 ▸ g1)]
    dsimp only
    rw [sdLoop_set]
    refine sdLoop_heap O i e k _ (g2 ▸ g1) a1 H0 ?_
    intro c b hc hb
    have := (List.getElem?_eq_some_iff.mp hb).1
    omega
  · rename_i he
    intro x c a b hx hc ha hb
    have h1 := List.getElem?_eq_none_iff.mp he
    have h2 := (List.getElem?_eq_some_iff.mp ha).1
    omega
theorem hfyN_heap {lt : α → α → Bool} (O : Ord lt) : ∀ (k : Nat) (es : List α), HeapFrom lt k es → HeapFrom lt 0 (hfyN lt k es)
  | 0, _, h => h
  | k + 1, es, h => hfyN_heap O k _ (sup_heap O h)
theorem hfy_heap {lt : α → α → Bool} (O : Ord lt) (es : List α) : HeapFrom lt 0 (hfy lt es) := hfyN_heap O _ es fun p c a b hp hc ha hb => by
  have := (List.getElem?_eq_some_iff.mp hb).1
  omega
theorem heap_top {lt : α → α → Bool} (O : Ord lt) {es : List α} (h : HeapFrom lt 0 es) {a : α} (ha : es[0]? = some a) : ∀ (k : Nat) (b : α), es[k]? = some b → lt b a = false := by
  intro k
  induction k using Nat.strongRecOn with
  | _ k ih =>
    intro b hb
    by_cases hk : k = 0
    · subst hk; rw [ha] at hb; cases hb; exact O.rf _
    · have h1 := (List.getElem?_eq_some_iff.mp hb).1
      obtain ⟨p, hp⟩ : ∃ p, es[(k - 1) / 2]? = some p := ⟨_, List.getElem?_eq_getElem (o_parn h1)⟩
      exact O.tr (ih _ (o_par (Nat.pos_of_ne_zero hk)) p hp) (h _ _ _ _ (Nat.zero_le _) (o_ch (Nat.pos_of_ne_zero hk)) hp hb)
theorem heap_set {lt : α → α → Bool} {es : List α} (h : HeapFrom lt 0 es) (x : α) : HeapFrom lt 1 (es.set 0 x) := fun p c a b hp hc ha hb => by
  rw [List.getElem?_set_ne (Nat.ne_of_lt hp)] at ha
  rw [List.getElem?_set_ne (Nat.ne_of_lt (Nat.lt_trans hp (o_chn hc)))] at hb
  exact h _ _ _ _ (Nat.zero_le _) hc ha hb
theorem heap_drop {lt : α → α → Bool} {es : List α} (h : HeapFrom lt 0 es) : HeapFrom lt 0 es.dropLast := fun p c a b hp hc ha hb => by
  have pre : ∀ {i : Nat} {x : α}, es.dropLast[i]? = some x → es[i]? = some x := fun {i x} hx => by
    have h1 := (List.getElem?_eq_some_iff.mp hx).1
    rw [List.length_dropLast] at h1
    rw [List.dropLast_eq_take, List.getElem?_take_of_lt (by omega)] at hx
    exact hx
  exact h _ _ _ _ hp hc (pre ha) (pre hb)
end
theorem pltB_ord : Ord pltB where
  tr := by
    rintro ⟨a1, a2⟩ ⟨b1, b2⟩ ⟨c1, c2⟩ h1 h2
    simp only [pltB, Bool.or_eq_false_iff, Bool.and_eq_false_iff, decide_eq_false_iff_not] at *
    omega
  as := by
    rintro ⟨a1, a2⟩ ⟨b1, b2⟩ h1
    simp only [pltB, Bool.or_eq_true, Bool.and_eq_true, decide_eq_true_eq, Bool.or_eq_false_iff, Bool.and_eq_false_iff, decide_eq_false_iff_not] at *
    omega
theorem en_lt_ord : Ord En.lt := ⟨fun h1 h2 => pltB_ord.tr h1 h2, fun h => pltB_ord.as h⟩
theorem en_gt_ord : Ord En.gt := ⟨fun {a b c} (h1 : a.lt b = false) (h2 : b.lt c = false) => (pltB_ord.tr (a := c.d) (b := b.d) (c := a.d) h2 h1 : a.lt c = false), fun {a b} (h : b.lt a = true) => (pltB_ord.as h : a.lt b = false)⟩
def hpop {α : Type} (lt : α → α → Bool) (es : List α) : List α :=
  match es.getLast? with
  | some z => if es.length = 1 then [] else sup lt (es.dropLast.set 0 z) 0
  | none => []
theorem hpop_one {α : Type} (lt : α → α → Bool) (ini : List α) (z : α) (h : ini.length = 0) : hpop lt (ini ++ [z]) = ini := by
  cases ini with
  | nil => rfl
  | cons _ _ => simp at h
theorem hpop_more {α : Type} (lt : α → α → Bool) (ini : List α) (z : α) (h : 0 < ini.length) : hpop lt (ini ++ [z]) = sup lt (ini.set 0 z) 0 := by
  unfold hpop
  rw [List.getLast?_append, List.getLast?_singleton]
  simp only [Option.some_or, List.length_append, List.length_singleton, List.dropLast_concat]
  rw [if_neg (by omega)]
theorem pre_get {α : Type} {a b : List α} {i : Nat} {x : α} (h : a[i]? = some x) : (a ++ b)[i]? = some x := by
  rw [List.getElem?_append_left (List.getElem?_eq_some_iff.mp h).1]; exact h
section
variable {α β : Type} {lt : α → α → Bool} {lt' : β → β → Bool} {f : α → β}
theorem sdLoop_map (hf : ∀ a b, lt a b = lt' (f a) (f b)) (i : Nat) (e : α) : ∀ (k : Nat) (es : List α), (sdLoop lt i e k es).map f = sdLoop lt' i (f e) k (es.map f) := by
  intro k
  induction k using Nat.strongRecOn with
  | _ k ih =>
    intro es
    rw [sdLoop]
    conv => rhs; rw [sdLoop]
    by_cases hik : i < k
    · rw [if_pos hik, if_pos hik, List.getElem?_map]
      cases h : es[(k - 1) / 2]? with
      | none => rfl
      | some p =>
        simp only [Option.map_some]
        rw [← hf]
        cases hl : lt e p with
        | true => simp only [if_true]; rw [ih _ (o_par hik), List.map_set]
        | false => simp only [Bool.false_eq_true, if_false]; rw [List.map_set]
    · rw [if_neg hik, if_neg hik, List.map_set]
theorem suLoop_map (hf : ∀ a b, lt a b = lt' (f a) (f b)) : ∀ (d k : Nat) (es : List α), es.length - k = d → suLoop lt' k (es.map f) = ((suLoop lt k es).1, (suLoop lt k es).2.map f) := by
  intro d
  induction d using Nat.strongRecOn with
  | _ d ih =>
    intro k es hd
    rw [suLoop]
    conv => rhs; rw [suLoop]
    rw [List.length_map]
    by_cases hk : 2 * k + 1 < es.length
    · rw [dif_pos hk, dif_pos hk, List.getElem?_map, List.getElem?_map]
      cases ha : es[2 * k + 1]? with
      | none => rfl
      | some a =>
        cases hb : es[2 * k + 2]? with
        | none =>
          simp only [Option.map_some, Option.map_none]
          rw [← List.map_set, ih (es.length - (2 * k + 1)) (o_dec hd (Nat.lt_trans (o_l k) hk) (o_l k)) _ _ (by rw [List.length_set])]
        | some b =>
          have hb1 := (List.getElem?_eq_some_iff.mp hb).1
          simp only [Option.map_some]
          rw [← hf]
          cases hl : lt a b with
          | true => simp only [if_true]; rw [← List.map_set, ih (es.length - (2 * k + 1)) (o_dec hd (Nat.lt_trans (o_l k) hk) (o_l k)) _ _ (by rw [List.length_set])]
          | false => simp only [Bool.false_eq_true, if_false]; rw [← List.map_set, ih (es.length - (2 * k + 2)) (o_dec hd (Nat.lt_trans (o_l k) hk) (o_r k)) _ _ (by rw [List.length_set])]
    · rw [dif_neg hk, dif_neg hk]
theorem sup_map (hf : ∀ a b, lt a b = lt' (f a) (f b)) (es : List α) (k : Nat) : (sup lt es k).map f = sup lt' (es.map f) k := by
  unfold sup
  rw [List.getElem?_map]
  cases he : es[k]? with
  | none => rfl
  | some e =>
    simp only [Option.map_some]
    rw [suLoop_map hf _ k es rfl]
    dsimp only
    unfold sdown
    rw [← List.map_set, List.getElem?_map]
    cases h : ((suLoop lt k es).2.set (suLoop lt k es).1 e)[(suLoop lt k es).1]? with
    | none => rfl
    | some x => simp only [Option.map_some]; rw [sdLoop_map hf]
theorem hfyN_map (hf : ∀ a b, lt a b = lt' (f a) (f b)) : ∀ (k : Nat) (es : List α), (hfyN lt k es).map f = hfyN lt' k (es.map f)
  | 0, _ => rfl
  | k + 1, es => by
    show (hfyN lt k (sup lt es k)).map f = hfyN lt' k (sup lt' (es.map f) k)
    rw [hfyN_map hf k, sup_map hf]
theorem hfy_map (hf : ∀ a b, lt a b = lt' (f a) (f b)) (es : List α) : (hfy lt es).map f = hfy lt' (es.map f) := by
  unfold hfy; rw [hfyN_map hf, List.length_map]
theorem hpop_map (hf : ∀ a b, lt a b = lt' (f a) (f b)) (es : List α) : (hpop lt es).map f = hpop lt' (es.map f) := by
  unfold hpop
  rw [List.getLast?_map, List.length_map]
  cases h : es.getLast? with
  | none => rfl
  | some z =>
    simp only [Option.map_some]
    split
    · rfl
    · rw [sup_map hf, List.map_set, List.map_dropLast]
end
def pgtB (a b : Int × Int) : Bool := pltB b a
theorem en_lt_d (a b : En) : a.lt b = pltB a.d b.d := rfl
theorem en_gt_d (a b : En) : a.gt b = pgtB a.d b.d := rfl
def fwd (cs : List (Int × Int)) (hs : List (Int × Int)) : List (Int × Int) :=
  match hs[0]? with
  | some d => sup pltB (hs.set 0 (d.1 + (cat cs d.2).2, d.2)) 0
  | none => hs
def fwdN (cs : List (Int × Int)) : Nat → List (Int × Int) → List (Int × Int)
  | 0, hs => hs
  | n + 1, hs => fwd cs (fwdN cs n hs)
def hd0 (hs : List (Int × Int)) : Int × Int := hs.getD 0 (0, 0)
def toldD (cs : List (Int × Int)) (n : Nat) (hs : List (Int × Int)) : List (Int × Int) := (List.range n).map fun k => hd0 (fwdN cs k hs)
theorem hd0_of {es : List En} {e : En} (h : es[0]? = some e) : hd0 (es.map En.d) = e.d := by simp [hd0, h]
theorem fwd_of {cs : List (Int × Int)} {es : List En} {e it : En} (h : es[0]? = some e) (hi : it.d = (e.x + (cat cs e.y).2, e.y)) : (sup En.lt (es.set 0 it) 0).map En.d = fwd cs (es.map En.d) := by
  rw [sup_map en_lt_d, List.map_set]
  unfold fwd
  rw [List.getElem?_map, h, hi]; rfl
theorem news_mv2 {h₀ h : Heap} {L : Addr} {a b : Addr × Obj} {r : List (Addr × Obj)} (N : News h₀ L h (a :: b :: r)) : News h₀ L h (b :: a :: r) := news_sub N fun p hp => by
  simp only [List.mem_cons] at hp ⊢
  rcases hp with h | h | h
  · exact .inr (.inl h)
  · exact .inl h
  · exact .inr (.inr h)
section
variable {prog : Program} {w : World} {A : Around} {E : Value → Shared → Prop} {s : Shared} {h₀ : Heap} {L : Addr} {m : Str → Option Value} {news news' : List (Addr × Obj)} {l : Addr} {es : List En} {n : Nat} {e : En} {Q : Value → Shared → Prop}
theorem append_En (F : Fr h₀ L s.heap m) (N : News h₀ L s.heap news) (U : Upd l (listOf (vals es).toArray n) (listOf (vals (es ++ [e])).toArray (n + 1)) news news') (h2 : es.length ≤ 1000)
    (h : ∀ h', Fr h₀ L h' m → News h₀ L h' news' → Q .none { s with heap := h' }) : wpAny (model prog w) A (call (.builtin "list.append") [.ref l, .ref e.t]) Q E s := by
  have e1 : (vals es).toArray.push (.ref e.t) = (vals (es ++ [e])).toArray := by rw [← vals_snoc, List.push_toArray]
  refine append_K F N (e1 ▸ U) h ?_
  have := sizeLine_eq
  rw [List.size_toArray, vals_length]; omega
end
theorem allLt_mem {d : Nat} : ∀ {l : List (Addr × Obj)}, AllLt d l → ∀ p ∈ l, @LT.lt Nat _ p.1 d := by
  intro l
  induction l with
  | nil => intro _ p hp; cases hp
  | cons q r ih =>
    intro h p hp
    rcases List.mem_cons.mp hp with rfl | hp
    · exact h.1
    · exact ih h.2 p hp
theorem allLt_ne {d : Nat} {l : List (Addr × Obj)} (h : AllLt d l) : ∀ p ∈ l, p.1 ≠ d := fun p hp => Nat.ne_of_lt (allLt_mem h p hp)
theorem in_lo {es : List En} {i : Nat} {e : En} {n : Int} (he : es[i]? = some e) (h : ∀ e ∈ es, 0 ≤ e.y ∧ e.y < n) : 0 ≤ e.y := (h e (List.mem_of_getElem? he)).1
theorem in_hi {es : List En} {i : Nat} {e : En} {n : Int} (he : es[i]? = some e) (h : ∀ e ∈ es, 0 ≤ e.y ∧ e.y < n) : e.y < n := (h e (List.mem_of_getElem? he)).2
theorem forall_sup {lt : En → En → Bool} {es : List En} {it : En} {k : Nat} {P : En → Prop} (h : ∀ e ∈ es, P e) (hi : P it) : ∀ e ∈ sup lt (es.set 0 it) k, P e := fun e he => by
  have h1 := (sup_perm lt (es.set 0 it) k).mem_iff.mp he
  rcases List.mem_or_eq_of_mem_set h1 with q | q
  · exact h e q
  · exact q ▸ hi
theorem forall_snoc {es : List En} {e : En} {P : En → Prop} (h : ∀ x ∈ es, P x) (he : P e) : ∀ x ∈ es ++ [e], P x := fun x hx => by
  rcases List.mem_append.mp hx with q | q
  · exact h x q
  · rw [List.mem_singleton.mp q]; exact he
local macro_rules | `(tactic| walk_at "st") => `(tactic| first | (k_unfold; (try dsimp only)) | (k_end; wrow_close) | walk1 | (dsimp only; walk1) | (leave1; walk_say "STEP leave1"; try dsimp only) | fail "no step")
local macro_rules | `(tactic| walk_at "hk") => `(tactic| first | exact rfl | assumption)
local macro_rules | `(tactic| walk_at "in") => `(tactic| (intros; (try k_sweep)))
local macro_rules | `(tactic| walk_at "om") => `(tactic| first | with_reducible assumption | omega)
local macro_rules | `(tactic| walk_at "len") => `(tactic| first | walk_at "om" | (simp only [sup_length, List.length_set]; omega))
local macro_rules | `(tactic| walk_at "room") => `(tactic| ((try dsimp only [ktrTop]); first | exact room3 (by assumption) (by decide) | exact room2 (by assumption) (by decide) | exact room1 (by assumption)))
local macro_rules | `(tactic| ktr_room) => `(tactic| ((try simp only [depth_under_make, depth_under_kw, depth_in1, depth_deeper, depth_caller]); walk_at "room"))
local macro_rules | `(tactic| ktr_units) => `(tactic| ((try simp only [units_in1, units_deeper, Around.mark_units, units_caller]); walk_at "room"))
local macro_rules | `(tactic| walk_at "news") => `(tactic| first | k_asm | exact news_mv2 (by k_asm))
local macro_rules | `(tactic| k_all) => `(tactic| assumption)
local macro_rules | `(tactic| k_mem) => `(tactic| first | assumption | exact en_mem (by assumption) (by assumption))
local macro_rules | `(tactic| walk_at "subscriptTail") => `(tactic| (k_here; (with_reducible show wpAny _ _ (subscriptTail _ _ (Value.ref _) (Value.int _ _)) _ _ _); k_dflt (refine item_En (by k_asm) (by k_mem) (by walk_at "om") (by walk_at "om") (by assumption) ?_ (by with_unfolding_all rfl) (by intro _; with_unfolding_all rfl)); intros))
local macro_rules | `(tactic| walk_at "setItem ref int") => `(tactic| (k_here; (with_reducible show wpAny _ _ (setItem (Value.ref _) (Value.int _ _) (Value.ref _)) _ _ _); k_dflt (refine set_En (by k_asm) (by k_asm) (by k_upd) (by walk_at "om") (by walk_at "om") (by assumption) ?_); walk_at "in"))
local macro_rules | `(tactic| walk_at "compareOp Lt ref") => `(tactic| (k_here; (with_reducible show wpAny _ _ (compareOp CmpOp.Lt (Value.ref _) (Value.ref _)) _ _ _); k_dflt (refine lt_En (by k_asm) (by k_mem) (by k_mem) (by ktr_units) ?_)))
local macro_rules | `(tactic| walk_at "binaryOp RShift int int") => `(tactic| (k_here; k_dflt (refine' rshift_one ?_; k_whole); intros))
local macro_rules | `(tactic| walk_at "to while") => `(tactic| repeat' ((fail_if_success (with_reducible show wpAny _ _ (exec (Stmt.While _ _ _ _) _) _ _ _)); walk_at "st"))
local macro_rules | `(tactic| walk_at "WhPost") => `(tactic| dsimp only [WhPost])
local macro_rules | `(tactic| walk_at "call builtin:len") => `(tactic| (k_here; k_dflt (refine len_En (by k_asm) (by k_mem) (by assumption) ?_); intros))
local macro_rules | `(tactic| walk_at "to for") => `(tactic| repeat' ((fail_if_success (with_reducible show wpAny _ _ (exec (Stmt.For _ _ _ _ _) _) _ _ _)); walk_at "st"))
local macro_rules | `(tactic| walk_at "call type:range") => `(tactic| (k_here; (with_reducible show wpAny _ _ (call _ [_]) _ _ _); k_dflt (refine range1_L (by k_asm) (by k_asm) ?_); walk_at "in"))
local macro_rules | `(tactic| walk_at "call type:reversed") => `(tactic| (k_here; k_dflt (refine reversed_range_L (by k_asm) (by k_asm) (by k_mem) (by walk_at "om") (by walk_at "om") ?_); walk_at "in"))
local macro_rules | `(tactic| walk_at "pyIter ref") => `(tactic| (k_here; k_dflt (refine iter_rit_L (by k_asm) (by k_mem) ?_)))
local macro_rules | `(tactic| walk_at "pyIter ref") => `(tactic| (k_here; k_dflt (refine iter_range_L (by k_asm) (by k_asm) (by k_mem) (by walk_at "om") (by walk_at "om") ?_); walk_at "in"))
local macro_rules | `(tactic| walk_at "FoPost") => `(tactic| dsimp only [FoPost])
local macro_rules | `(tactic| walk_at "binaryOp FloorDiv int int") => `(tactic| (k_here; k_dflt (refine fdiv_L (by walk_at "om") (by walk_at "om") ?_); intros))
local macro_rules | `(tactic| walk_at "binaryOp Mod int int") => `(tactic| (k_here; k_dflt (refine fmod_L (by walk_at "om") ?_); intros))
local macro_rules | `(tactic| walk_at "has") => `(tactic| first | assumption | exact set_has (by walk_at "has") (by k_mem) | exact has_tail (by walk_at "has"))
local macro_rules | `(tactic| walk_at "off") => `(tactic| first | assumption | exact List.forall_mem_nil _ | (refine List.forall_mem_cons.mpr ⟨by k_ne, ?_⟩; walk_at "off"))
local macro_rules | `(tactic| walk_at "sub") => `(tactic| first | exact List.forall_mem_nil _ | (refine List.forall_mem_cons.mpr ⟨by k_mem, ?_⟩; walk_at "sub") | (intro p9 hp9; repeat (first | exact hp9 | refine List.Mem.tail _ ?_)))
local macro_rules | `(tactic| walk_at "call builtin:list.pop") => `(tactic| (k_here; (show wpAny _ _ (call (Value.builtin _) [Value.ref _]) _ _ _); k_dflt (refine pop_En (by k_asm) (by k_asm) (by k_upd) (by walk_at "om") ?_); walk_at "in"))
local macro_rules | `(tactic| walk_at "truthy ref") => `(tactic| (k_here; k_dflt (refine truthy_En (by k_asm) (by k_mem) (by walk_at "om") ?_); intros))
local macro_rules | `(tactic| walk_at "subscriptTail") => `(tactic| (k_here; (with_reducible show wpAny _ _ (subscriptTail _ _ (Value.ref (En.t _)) (Value.int 0 _)) _ _ _); k_dflt (refine tup0_En (by k_asm) (by k_mem) ?_ (by with_unfolding_all rfl) (by intro _; with_unfolding_all rfl))))
local macro_rules | `(tactic| walk_at "subscriptTail") => `(tactic| (k_here; (with_reducible show wpAny _ _ (subscriptTail _ _ (Value.ref (En.t _)) (Value.int 1 _)) _ _ _); k_dflt (refine tup1_En (by k_asm) (by k_mem) ?_ (by with_unfolding_all rfl) (by intro _; with_unfolding_all rfl))))
theorem opeq_does (w : World) {mean : ExcName → Option Value} {mg mb : Str → Option Value} {dp un : Nat} {gd : Option (List Code)} {cn : Str} {cs : Scope} {a : Addr} {ccd : Value} {cl : List (Str × Addr)} {outer : List Env} {A₀ : Around} {base h₀ : Heap} {L : Addr} {m : Str → Option Value} {s : Shared}
    {Q E : Value → Shared → Prop} {news : List (Addr × Obj)} {x y : Int} {tx ty : Tok}
    (B : Below A₀ base outer h₀) (F : Fr h₀ L s.heap m) (X : (hd.heap_39 w.params).In h₀) (N : News h₀ L s.heap news) (T : Top hd.view_39 (looseW hd.view_39 []) mean mg mb h₀) (hk : cs.kind = .function) (hdp : dp + 3 < recursionLimit) (hun : un + 24 < cLine)
    (ret : ∀ h' tk', Fr h₀ L h' m → News h₀ L h' news → Q (.bool (decide (x = y))) { s with heap := h', toks := tk' }) :
    wpAny (model PySem.Challenge.rw_mr0198_01.row.prog w) (ktrTop dp un gd cn cs L a ccd cl outer) (call (.ref 84) [.int x tx, .int y ty]) Q E s := by
  w_on
  revert X; k_fill; intro X
  refine wpAny_call ?_
  k_dflt ktr_enter
  k_steps
  exact ret _ _ (by assumption) (by assumption)
theorem opadd_does (w : World) {mean : ExcName → Option Value} {mg mb : Str → Option Value} {dp un : Nat} {gd : Option (List Code)} {cn : Str} {cs : Scope} {a : Addr} {ccd : Value} {cl : List (Str × Addr)} {outer : List Env} {A₀ : Around} {base h₀ : Heap} {L : Addr} {m : Str → Option Value} {s : Shared}
    {Q E : Value → Shared → Prop} {news : List (Addr × Obj)} {x y : Int} {tx ty : Tok}
    (B : Below A₀ base outer h₀) (F : Fr h₀ L s.heap m) (X : (hd.heap_39 w.params).In h₀) (N : News h₀ L s.heap news) (T : Top hd.view_39 (looseW hd.view_39 []) mean mg mb h₀) (hk : cs.kind = .function) (hdp : dp + 3 < recursionLimit) (hun : un + 24 < cLine)
    (ret : ∀ h' tk' t, Fr h₀ L h' m → News h₀ L h' news → Q (.int (x + y) t) { s with heap := h', toks := tk' }) :
    wpAny (model PySem.Challenge.rw_mr0198_01.row.prog w) (ktrTop dp un gd cn cs L a ccd cl outer) (call (.ref 91) [.int x tx, .int y ty]) Q E s := by
  w_on
  revert X; k_fill; intro X
  refine wpAny_call ?_
  k_dflt ktr_enter
  k_steps
  exact ret _ _ _ (by assumption) (by assumption)
theorem opfloordiv_does (w : World) {mean : ExcName → Option Value} {mg mb : Str → Option Value} {dp un : Nat} {gd : Option (List Code)} {cn : Str} {cs : Scope} {a : Addr} {ccd : Value} {cl : List (Str × Addr)} {outer : List Env} {A₀ : Around} {base h₀ : Heap} {L : Addr} {m : Str → Option Value} {s : Shared}
    {Q E : Value → Shared → Prop} {news : List (Addr × Obj)} {x y : Int} {tx ty : Tok}
    (B : Below A₀ base outer h₀) (F : Fr h₀ L s.heap m) (X : (hd.heap_39 w.params).In h₀) (N : News h₀ L s.heap news) (T : Top hd.view_39 (looseW hd.view_39 []) mean mg mb h₀) (hk : cs.kind = .function) (hdp : dp + 3 < recursionLimit) (hun : un + 24 < cLine) (h0 : 0 < y) (h1 : y < 1000)
    (ret : ∀ h' tk' t, Fr h₀ L h' m → News h₀ L h' news → Q (.int (x / y) t) { s with heap := h', toks := tk' }) :
    wpAny (model PySem.Challenge.rw_mr0198_01.row.prog w) (ktrTop dp un gd cn cs L a ccd cl outer) (call (.ref 98) [.int x tx, .int y ty]) Q E s := by
  w_on
  revert X; k_fill; intro X
  refine wpAny_call ?_
  k_dflt ktr_enter
  k_steps
  exact ret _ _ _ (by assumption) (by assumption)
theorem opmod_does (w : World) {mean : ExcName → Option Value} {mg mb : Str → Option Value} {dp un : Nat} {gd : Option (List Code)} {cn : Str} {cs : Scope} {a : Addr} {ccd : Value} {cl : List (Str × Addr)} {outer : List Env} {A₀ : Around} {base h₀ : Heap} {L : Addr} {m : Str → Option Value} {s : Shared}
    {Q E : Value → Shared → Prop} {news : List (Addr × Obj)} {x y : Int} {tx ty : Tok}
    (B : Below A₀ base outer h₀) (F : Fr h₀ L s.heap m) (X : (hd.heap_39 w.params).In h₀) (N : News h₀ L s.heap news) (T : Top hd.view_39 (looseW hd.view_39 []) mean mg mb h₀) (hk : cs.kind = .function) (hdp : dp + 3 < recursionLimit) (hun : un + 24 < cLine) (h0 : 0 < y)
    (ret : ∀ h' tk' t, Fr h₀ L h' m → News h₀ L h' news → Q (.int (x % y) t) { s with heap := h', toks := tk' }) :
    wpAny (model PySem.Challenge.rw_mr0198_01.row.prog w) (ktrTop dp un gd cn cs L a ccd cl outer) (call (.ref 105) [.int x tx, .int y ty]) Q E s := by
  w_on
  revert X; k_fill; intro X
  refine wpAny_call ?_
  k_dflt ktr_enter
  k_steps
  exact ret _ _ _ (by assumption) (by assumption)
theorem opmul_does (w : World) {mean : ExcName → Option Value} {mg mb : Str → Option Value} {dp un : Nat} {gd : Option (List Code)} {cn : Str} {cs : Scope} {a : Addr} {ccd : Value} {cl : List (Str × Addr)} {outer : List Env} {A₀ : Around} {base h₀ : Heap} {L : Addr} {m : Str → Option Value} {s : Shared}
    {Q E : Value → Shared → Prop} {news : List (Addr × Obj)} {x y : Int} {tx ty : Tok}
    (B : Below A₀ base outer h₀) (F : Fr h₀ L s.heap m) (X : (hd.heap_39 w.params).In h₀) (N : News h₀ L s.heap news) (T : Top hd.view_39 (looseW hd.view_39 []) mean mg mb h₀) (hk : cs.kind = .function) (hdp : dp + 3 < recursionLimit) (hun : un + 24 < cLine) (h0 : 0 ≤ x) (h1 : x ≤ 1000) (h2 : 0 ≤ y) (h3 : y ≤ 1000)
    (ret : ∀ h' tk' t, Fr h₀ L h' m → News h₀ L h' news → Q (.int (x * y) t) { s with heap := h', toks := tk' }) :
    wpAny (model PySem.Challenge.rw_mr0198_01.row.prog w) (ktrTop dp un gd cn cs L a ccd cl outer) (call (.ref 112) [.int x tx, .int y ty]) Q E s := by
  w_on
  revert X; k_fill; intro X
  refine wpAny_call ?_
  k_dflt ktr_enter
  k_steps
  exact ret _ _ _ (by assumption) (by assumption)
theorem opsub_does (w : World) {mean : ExcName → Option Value} {mg mb : Str → Option Value} {dp un : Nat} {gd : Option (List Code)} {cn : Str} {cs : Scope} {a : Addr} {ccd : Value} {cl : List (Str × Addr)} {outer : List Env} {A₀ : Around} {base h₀ : Heap} {L : Addr} {m : Str → Option Value} {s : Shared}
    {Q E : Value → Shared → Prop} {news : List (Addr × Obj)} {x y : Int} {tx ty : Tok}
    (B : Below A₀ base outer h₀) (F : Fr h₀ L s.heap m) (X : (hd.heap_39 w.params).In h₀) (N : News h₀ L s.heap news) (T : Top hd.view_39 (looseW hd.view_39 []) mean mg mb h₀) (hk : cs.kind = .function) (hdp : dp + 3 < recursionLimit) (hun : un + 24 < cLine)
    (ret : ∀ h' tk' t, Fr h₀ L h' m → News h₀ L h' news → Q (.int (x - y) t) { s with heap := h', toks := tk' }) :
    wpAny (model PySem.Challenge.rw_mr0198_01.row.prog w) (ktrTop dp un gd cn cs L a ccd cl outer) (call (.ref 119) [.int x tx, .int y ty]) Q E s := by
  w_on
  revert X; k_fill; intro X
  refine wpAny_call ?_
  k_dflt ktr_enter
  k_steps
  exact ret _ _ _ (by assumption) (by assumption)
structure SdS where
  es : List En
  k : Int
  t : Tok
theorem siftdown_does (w : World) {mean : ExcName → Option Value} {mg mb : Str → Option Value} {dp un : Nat} {gd : Option (List Code)} {cn : Str} {cs : Scope} {a : Addr} {ccd : Value} {cl : List (Str × Addr)} {outer : List Env} {A₀ : Around} {base h₀ : Heap} {L : Addr} {m : Str → Option Value} {s : Shared}
    {Q E : Value → Shared → Prop} {l : Addr} {es : List En} {n : Nat} {rest : List (Addr × Obj)} {i k : Int} {ta tb : Tok}
    (B : Below A₀ base outer h₀) (F : Fr h₀ L s.heap m) (X : (hd.heap_39 w.params).In h₀) (N : News h₀ L s.heap ((l, listOf (vals es).toArray n) :: rest)) (T : Top hd.view_39 (looseW hd.view_39 []) mean mg mb h₀) (hk : cs.kind = .function)
    (hoff : ∀ p ∈ rest, p.1 ≠ l) (hes : ∀ e ∈ es, (e.t, e.obj) ∈ rest) (hlen : es.length ≤ 1000) (hi0 : 0 ≤ i) (hik : 0 ≤ k) (hkl : k < (es.length : Int)) (hdp : dp + 10 < recursionLimit) (hun : un + 80 < cLine)
    (ret : ∀ h' tk', Fr h₀ L h' m → News h₀ L h' ((l, listOf (vals (sdown En.lt es i.toNat k.toNat)).toArray n) :: rest) → Q .none { s with heap := h', toks := tk' }) :
    wpAny (model PySem.Challenge.rw_mr0198_01.row.prog w) (ktrTop dp un gd cn cs L a ccd cl outer) (call (.ref 56) [.ref l, .int i ta, .int k tb]) Q E s := by
  w_on
  revert X; k_fill; intro X
  refine wpAny_call ?_
  k_dflt ktr_enter
  walk_at "to while"
  rename Fr _ _ _ _ => F1
  rename News _ _ _ _ => N1
  rename_i e0 he0 _
  refine wh_while (σ := SdS) (fun c => (l, listOf (vals c.es).toArray n) :: rest) (fun c => [("heap", .ref l), ("startpos", .int i ta), ("pos", .int c.k c.t), ("newitem", .ref e0.t)])
    (fun c => 0 ≤ c.k ∧ c.k < (c.es.length : Int) ∧ c.es.length ≤ 1000 ∧ (∀ e ∈ c.es, (e.t, e.obj) ∈ rest) ∧ sdLoop En.lt i.toNat e0 c.k.toNat c.es = sdLoop En.lt i.toNat e0 k.toNat es) (fun c => c.k.toNat) ⟨es, k, tb⟩ F1 N1 (by kst_all) ⟨hik, hkl, hlen, hes, rfl⟩ ?_
  clear F1 N1
  rintro ⟨es1, k1, t1⟩ u1 h1 tk1 ⟨hP1, hP2, hP3, hP4, hP5⟩ F1 N1
  dsimp only at hP1 hP2 hP3 hP4 hP5 F1 N1 ⊢
  k_steps
  · rename_i p1 hp1 _ hl1 _ _ _ _
    refine ⟨⟨es1.set k1.toNat p1, (k1 - 1) / 2, _⟩, _, _, _, rfl, by assumption, by assumption, by kst_all, ⟨?_, ?_, ?_, set_has hP4 (en_mem hp1 hP4), ?_⟩, ?_⟩
    · exact o_d0 hi0 (by assumption)
    · dsimp only; rw [List.length_set]; exact o_d1 hi0 (by assumption) hP2
    · dsimp only; rw [List.length_set]; exact hP3
    · dsimp only; rw [← hP5]; exact sdLoop_go hi0 (by assumption) hp1 hl1
    · exact o_d2 hi0 (by assumption)
  · refine ret _ _ (by assumption) ?_
    rw [sdown_of he0, ← hP5, sdLoop_brk hi0 (by assumption) (by assumption) (by assumption)]
    assumption
  · refine ret _ _ (by assumption) ?_
    rw [sdown_of he0, ← hP5, sdLoop_end hi0 (by assumption)]
    assumption
theorem siftdownM_does (w : World) {mean : ExcName → Option Value} {mg mb : Str → Option Value} {dp un : Nat} {gd : Option (List Code)} {cn : Str} {cs : Scope} {a : Addr} {ccd : Value} {cl : List (Str × Addr)} {outer : List Env} {A₀ : Around} {base h₀ : Heap} {L : Addr} {m : Str → Option Value} {s : Shared}
    {Q E : Value → Shared → Prop} {l : Addr} {es : List En} {n : Nat} {rest : List (Addr × Obj)} {i k : Int} {ta tb : Tok}
    (B : Below A₀ base outer h₀) (F : Fr h₀ L s.heap m) (X : (hd.heap_39 w.params).In h₀) (N : News h₀ L s.heap ((l, listOf (vals es).toArray n) :: rest)) (T : Top hd.view_39 (looseW hd.view_39 []) mean mg mb h₀) (hk : cs.kind = .function)
    (hoff : ∀ p ∈ rest, p.1 ≠ l) (hes : ∀ e ∈ es, (e.t, e.obj) ∈ rest) (hlen : es.length ≤ 1000) (hi0 : 0 ≤ i) (hik : 0 ≤ k) (hkl : k < (es.length : Int)) (hdp : dp + 10 < recursionLimit) (hun : un + 80 < cLine)
    (ret : ∀ h' tk', Fr h₀ L h' m → News h₀ L h' ((l, listOf (vals (sdown En.gt es i.toNat k.toNat)).toArray n) :: rest) → Q .none { s with heap := h', toks := tk' }) :
    wpAny (model PySem.Challenge.rw_mr0198_01.row.prog w) (ktrTop dp un gd cn cs L a ccd cl outer) (call (.ref 70) [.ref l, .int i ta, .int k tb]) Q E s := by
  w_on
  revert X; k_fill; intro X
  refine wpAny_call ?_
  k_dflt ktr_enter
  walk_at "to while"
  rename Fr _ _ _ _ => F1
  rename News _ _ _ _ => N1
  rename_i e0 he0 _
  refine wh_while (σ := SdS) (fun c => (l, listOf (vals c.es).toArray n) :: rest) (fun c => [("heap", .ref l), ("startpos", .int i ta), ("pos", .int c.k c.t), ("newitem", .ref e0.t)])
    (fun c => 0 ≤ c.k ∧ c.k < (c.es.length : Int) ∧ c.es.length ≤ 1000 ∧ (∀ e ∈ c.es, (e.t, e.obj) ∈ rest) ∧ sdLoop En.gt i.toNat e0 c.k.toNat c.es = sdLoop En.gt i.toNat e0 k.toNat es) (fun c => c.k.toNat) ⟨es, k, tb⟩ F1 N1 (by kst_all) ⟨hik, hkl, hlen, hes, rfl⟩ ?_
  clear F1 N1
  rintro ⟨es1, k1, t1⟩ u1 h1 tk1 ⟨hP1, hP2, hP3, hP4, hP5⟩ F1 N1
  dsimp only at hP1 hP2 hP3 hP4 hP5 F1 N1 ⊢
  k_steps
  · rename_i p1 hp1 _ hl1 _ _ _ _
    refine ⟨⟨es1.set k1.toNat p1, (k1 - 1) / 2, _⟩, _, _, _, rfl, by assumption, by assumption, by kst_all, ⟨?_, ?_, ?_, set_has hP4 (en_mem hp1 hP4), ?_⟩, ?_⟩
    · exact o_d0 hi0 (by assumption)
    · dsimp only; rw [List.length_set]; exact o_d1 hi0 (by assumption) hP2
    · dsimp only; rw [List.length_set]; exact hP3
    · dsimp only; rw [← hP5]; exact sdLoop_go hi0 (by assumption) hp1 hl1
    · exact o_d2 hi0 (by assumption)
  · refine ret _ _ (by assumption) ?_
    rw [sdown_of he0, ← hP5, sdLoop_brk hi0 (by assumption) (by assumption) (by assumption)]
    assumption
  · refine ret _ _ (by assumption) ?_
    rw [sdown_of he0, ← hP5, sdLoop_end hi0 (by assumption)]
    assumption
local macro_rules | `(tactic| walk_at "call ref") => `(tactic| (k_here; (with_reducible show wpAny _ _ (call (Value.ref 56) _) _ _ _); k_dflt (refine siftdown_does _ (by k_asm) (by k_asm) (by k_asm) (by k_asm) (by k_asm) (by walk_at "hk") (by walk_at "off") (by walk_at "has") (by walk_at "len") (by walk_at "om") (by walk_at "om") (by walk_at "len") (by ktr_room) (by ktr_units) ?_); walk_at "in"))
local macro_rules | `(tactic| walk_at "call ref") => `(tactic| (k_here; (with_reducible show wpAny _ _ (call (Value.ref 70) _) _ _ _); k_dflt (refine siftdownM_does _ (by k_asm) (by k_asm) (by k_asm) (by k_asm) (by k_asm) (by walk_at "hk") (by walk_at "off") (by walk_at "has") (by walk_at "len") (by walk_at "om") (by walk_at "om") (by walk_at "len") (by ktr_room) (by ktr_units) ?_); walk_at "in"))
structure SuS where
  es : List En
  k : Int
  t : Tok
  t2 : Tok
theorem siftup_does (w : World) {mean : ExcName → Option Value} {mg mb : Str → Option Value} {dp un : Nat} {gd : Option (List Code)} {cn : Str} {cs : Scope} {a : Addr} {ccd : Value} {cl : List (Str × Addr)} {outer : List Env} {A₀ : Around} {base h₀ : Heap} {L : Addr} {m : Str → Option Value} {s : Shared}
    {Q E : Value → Shared → Prop} {l : Addr} {es : List En} {n : Nat} {rest : List (Addr × Obj)} {k : Int} {tb : Tok}
    (B : Below A₀ base outer h₀) (F : Fr h₀ L s.heap m) (X : (hd.heap_39 w.params).In h₀) (N : News h₀ L s.heap ((l, listOf (vals es).toArray n) :: rest)) (T : Top hd.view_39 (looseW hd.view_39 []) mean mg mb h₀) (hk : cs.kind = .function)
    (hoff : ∀ p ∈ rest, p.1 ≠ l) (hes : ∀ e ∈ es, (e.t, e.obj) ∈ rest) (hlen : es.length ≤ 1000) (hi0 : 0 ≤ k) (hkl : k < (es.length : Int)) (hdp : dp + 20 < recursionLimit) (hun : un + 160 < cLine)
    (ret : ∀ h' tk', Fr h₀ L h' m → News h₀ L h' ((l, listOf (vals (sup En.lt es k.toNat)).toArray n) :: rest) → Q .none { s with heap := h', toks := tk' }) :
    wpAny (model PySem.Challenge.rw_mr0198_01.row.prog w) (ktrTop dp un gd cn cs L a ccd cl outer) (call (.ref 63) [.ref l, .int k tb]) Q E s := by
  w_on
  revert X; k_fill; intro X
  refine wpAny_call ?_
  k_dflt ktr_enter
  walk_at "to while"
  rename Fr _ _ _ _ => F1
  rename News _ _ _ _ => N1
  rename_i te _ _ _ e0 he0 _ _
  refine wh_while (σ := SuS) (fun c => (l, listOf (vals c.es).toArray n) :: rest) (fun c => [("heap", .ref l), ("startpos", .int k tb), ("pos", .int c.k c.t), ("newitem", .ref e0.t), ("childpos", .int (2 * c.k + 1) c.t2), ("endpos", .int (es.length : Int) te)])
    (fun c => 0 ≤ c.k ∧ c.k < (c.es.length : Int) ∧ c.es.length = es.length ∧ (∀ e ∈ c.es, (e.t, e.obj) ∈ rest) ∧ suLoop En.lt c.k.toNat c.es = suLoop En.lt k.toNat es) (fun c => c.es.length - c.k.toNat) ⟨es, k, tb, _⟩ F1 N1 (by kst_all) ⟨hi0, hkl, rfl, hes, rfl⟩ ?_
  clear F1 N1
  rintro ⟨es1, k1, t1, t2⟩ u1 h1 tk1 ⟨hP1, hP2, hP3, hP4, hP5⟩ F1 N1
  dsimp only at hP1 hP2 hP3 hP4 hP5 F1 N1 ⊢
  have hlen1 : es1.length ≤ 1000 := hP3 ▸ hlen
  k_steps
  · refine ⟨⟨_, _, _, _⟩, _, _, _, rfl, by assumption, by assumption, by kst_all, ⟨?_, ?_, ?_, ?_, ?_⟩, ?_⟩
    · exact Int.le_trans hP1 (Int.le_of_lt (o_i1 hP1))
    · dsimp only; rw [List.length_set, hP3]; first | assumption | omega
    · dsimp only; rw [List.length_set]; exact hP3
    · dsimp only; exact set_has hP4 (by k_mem)
    · dsimp only; rw [← hP5]; exact suLoop_left (lt := En.lt) hP1 (by assumption) (by assumption) (by assumption) (by assumption)
    · dsimp only; rw [List.length_set]; exact o_meas hP1 (o_i1 hP1) hP2
  · refine ⟨⟨_, _, _, _⟩, _, _, _, rfl, by assumption, by assumption, by kst_all, ⟨?_, ?_, ?_, ?_, ?_⟩, ?_⟩
    · exact Int.le_trans hP1 (Int.le_of_lt (o_i2 hP1))
    · dsimp only; rw [List.length_set, hP3]; first | assumption | omega
    · dsimp only; rw [List.length_set]; exact hP3
    · dsimp only; exact set_has hP4 (by k_mem)
    · dsimp only; rw [← hP5]; exact suLoop_right (lt := En.lt) hP1 (by assumption) (by assumption) (by assumption) (by assumption)
    · dsimp only; rw [List.length_set]; exact o_meas hP1 (o_i2 hP1) hP2
  · refine ⟨⟨_, _, _, _⟩, _, _, _, rfl, by assumption, by assumption, by kst_all, ⟨?_, ?_, ?_, ?_, ?_⟩, ?_⟩
    · exact Int.le_trans hP1 (Int.le_of_lt (o_i1 hP1))
    · dsimp only; rw [List.length_set, hP3]; first | assumption | omega
    · dsimp only; rw [List.length_set]; exact hP3
    · dsimp only; exact set_has hP4 (by k_mem)
    · dsimp only; rw [← hP5]; exact suLoop_only hP1 (by assumption) (by omega)
    · dsimp only; rw [List.length_set]; exact o_meas hP1 (o_i1 hP1) hP2
  · refine ret _ _ (by assumption) ?_
    rw [sup_of he0 hP5 hP1 (by omega)]
    assumption
theorem siftupM_does (w : World) {mean : ExcName → Option Value} {mg mb : Str → Option Value} {dp un : Nat} {gd : Option (List Code)} {cn : Str} {cs : Scope} {a : Addr} {ccd : Value} {cl : List (Str × Addr)} {outer : List Env} {A₀ : Around} {base h₀ : Heap} {L : Addr} {m : Str → Option Value} {s : Shared}
    {Q E : Value → Shared → Prop} {l : Addr} {es : List En} {n : Nat} {rest : List (Addr × Obj)} {k : Int} {tb : Tok}
    (B : Below A₀ base outer h₀) (F : Fr h₀ L s.heap m) (X : (hd.heap_39 w.params).In h₀) (N : News h₀ L s.heap ((l, listOf (vals es).toArray n) :: rest)) (T : Top hd.view_39 (looseW hd.view_39 []) mean mg mb h₀) (hk : cs.kind = .function)
    (hoff : ∀ p ∈ rest, p.1 ≠ l) (hes : ∀ e ∈ es, (e.t, e.obj) ∈ rest) (hlen : es.length ≤ 1000) (hi0 : 0 ≤ k) (hkl : k < (es.length : Int)) (hdp : dp + 20 < recursionLimit) (hun : un + 160 < cLine)
    (ret : ∀ h' tk', Fr h₀ L h' m → News h₀ L h' ((l, listOf (vals (sup En.gt es k.toNat)).toArray n) :: rest) → Q .none { s with heap := h', toks := tk' }) :
    wpAny (model PySem.Challenge.rw_mr0198_01.row.prog w) (ktrTop dp un gd cn cs L a ccd cl outer) (call (.ref 77) [.ref l, .int k tb]) Q E s := by
  w_on
  revert X; k_fill; intro X
  refine wpAny_call ?_
  k_dflt ktr_enter
  walk_at "to while"
  rename Fr _ _ _ _ => F1
  rename News _ _ _ _ => N1
  rename_i te _ _ _ e0 he0 _ _
  refine wh_while (σ := SuS) (fun c => (l, listOf (vals c.es).toArray n) :: rest) (fun c => [("heap", .ref l), ("startpos", .int k tb), ("pos", .int c.k c.t), ("newitem", .ref e0.t), ("childpos", .int (2 * c.k + 1) c.t2), ("endpos", .int (es.length : Int) te)])
    (fun c => 0 ≤ c.k ∧ c.k < (c.es.length : Int) ∧ c.es.length = es.length ∧ (∀ e ∈ c.es, (e.t, e.obj) ∈ rest) ∧ suLoop En.gt c.k.toNat c.es = suLoop En.gt k.toNat es) (fun c => c.es.length - c.k.toNat) ⟨es, k, tb, _⟩ F1 N1 (by kst_all) ⟨hi0, hkl, rfl, hes, rfl⟩ ?_
  clear F1 N1
  rintro ⟨es1, k1, t1, t2⟩ u1 h1 tk1 ⟨hP1, hP2, hP3, hP4, hP5⟩ F1 N1
  dsimp only at hP1 hP2 hP3 hP4 hP5 F1 N1 ⊢
  have hlen1 : es1.length ≤ 1000 := hP3 ▸ hlen
  k_steps
  · refine ⟨⟨_, _, _, _⟩, _, _, _, rfl, by assumption, by assumption, by kst_all, ⟨?_, ?_, ?_, ?_, ?_⟩, ?_⟩
    · exact Int.le_trans hP1 (Int.le_of_lt (o_i1 hP1))
    · dsimp only; rw [List.length_set, hP3]; first | assumption | omega
    · dsimp only; rw [List.length_set]; exact hP3
    · dsimp only; exact set_has hP4 (by k_mem)
    · dsimp only; rw [← hP5]; exact suLoop_left (lt := En.gt) hP1 (by assumption) (by assumption) (by assumption) (by assumption)
    · dsimp only; rw [List.length_set]; exact o_meas hP1 (o_i1 hP1) hP2
  · refine ⟨⟨_, _, _, _⟩, _, _, _, rfl, by assumption, by assumption, by kst_all, ⟨?_, ?_, ?_, ?_, ?_⟩, ?_⟩
    · exact Int.le_trans hP1 (Int.le_of_lt (o_i2 hP1))
    · dsimp only; rw [List.length_set, hP3]; first | assumption | omega
    · dsimp only; rw [List.length_set]; exact hP3
    · dsimp only; exact set_has hP4 (by k_mem)
    · dsimp only; rw [← hP5]; exact suLoop_right (lt := En.gt) hP1 (by assumption) (by assumption) (by assumption) (by assumption)
    · dsimp only; rw [List.length_set]; exact o_meas hP1 (o_i2 hP1) hP2
  · refine ⟨⟨_, _, _, _⟩, _, _, _, rfl, by assumption, by assumption, by kst_all, ⟨?_, ?_, ?_, ?_, ?_⟩, ?_⟩
    · exact Int.le_trans hP1 (Int.le_of_lt (o_i1 hP1))
    · dsimp only; rw [List.length_set, hP3]; first | assumption | omega
    · dsimp only; rw [List.length_set]; exact hP3
    · dsimp only; exact set_has hP4 (by k_mem)
    · dsimp only; rw [← hP5]; exact suLoop_only hP1 (by assumption) (by omega)
    · dsimp only; rw [List.length_set]; exact o_meas hP1 (o_i1 hP1) hP2
  · refine ret _ _ (by assumption) ?_
    rw [sup_of he0 hP5 hP1 (by omega)]
    assumption
local macro_rules | `(tactic| walk_at "call ref") => `(tactic| (k_here; (with_reducible show wpAny _ _ (call (Value.ref 63) _) _ _ _); k_dflt (refine siftup_does _ (by k_asm) (by k_asm) (by k_asm) (by k_asm) (by k_asm) (by walk_at "hk") (by walk_at "off") (by walk_at "has") (by walk_at "len") (by walk_at "om") (by walk_at "len") (by ktr_room) (by ktr_units) ?_); walk_at "in"))
local macro_rules | `(tactic| walk_at "call ref") => `(tactic| (k_here; (with_reducible show wpAny _ _ (call (Value.ref 77) _) _ _ _); k_dflt (refine siftupM_does _ (by k_asm) (by k_asm) (by k_asm) (by k_asm) (by k_asm) (by walk_at "hk") (by walk_at "off") (by walk_at "has") (by walk_at "len") (by walk_at "om") (by walk_at "len") (by ktr_room) (by ktr_units) ?_); walk_at "in"))
theorem heapify_does (w : World) {mean : ExcName → Option Value} {mg mb : Str → Option Value} {dp un : Nat} {gd : Option (List Code)} {cn : Str} {cs : Scope} {a : Addr} {ccd : Value} {cl : List (Str × Addr)} {outer : List Env} {A₀ : Around} {base h₀ : Heap} {L : Addr} {m : Str → Option Value} {s : Shared}
    {Q E : Value → Shared → Prop} {l : Addr} {es : List En} {n : Nat} {rest : List (Addr × Obj)}
    (B : Below A₀ base outer h₀) (F : Fr h₀ L s.heap m) (X : (hd.heap_39 w.params).In h₀) (N : News h₀ L s.heap ((l, listOf (vals es).toArray n) :: rest)) (T : Top hd.view_39 (looseW hd.view_39 []) mean mg mb h₀) (hk : cs.kind = .function)
    (hoff : ∀ p ∈ rest, p.1 ≠ l) (hes : ∀ e ∈ es, (e.t, e.obj) ∈ rest) (hlen : es.length ≤ 1000) (hdp : dp + 30 < recursionLimit) (hun : un + 240 < cLine)
    (ret : ∀ h' tk', Fr h₀ L h' m → News h₀ L h' ((l, listOf (vals (hfy En.lt es)).toArray n) :: rest) → Q .none { s with heap := h', toks := tk' }) :
    wpAny (model PySem.Challenge.rw_mr0198_01.row.prog w) (ktrTop dp un gd cn cs L a ccd cl outer) (call (.ref 28) [.ref l]) Q E s := by
  w_on
  revert X; k_fill; intro X
  refine wpAny_call ?_
  k_dflt ktr_enter
  walk_at "to for"
  refine wpAny_For ?_
  k_steps
  rename Fr _ _ _ _ => F1
  rename News _ _ _ _ => N1
  rename_i r1 _ _ t1 u1 v1 hr1 I1 _ hI1
  have hlr : @LT.lt Nat _ l r1 := hr1 (l, _) (.head _)
  have hlI : @LT.lt Nat _ l I1 := hI1 (l, _) (.tail _ (.head _))
  have hn2 : (es.length : Int) / 2 = ((es.length / 2 : Nat) : Int) := rfl
  rw [hn2] at N1
  refine for_range (σ := List En) (n := es.length / 2) (a := ((es.length / 2 : Nat) : Int) - 1) (step := -1) (fun c => [(l, listOf (vals c).toArray n)]) (fun _ => (r1, rngO 0 ((es.length / 2 : Nat) : Int) 1 t1 u1 v1) :: rest) (fun _ => [("x", .ref l)])
    (fun i c => c.length = es.length ∧ (∀ e ∈ c, (e.t, e.obj) ∈ rest) ∧ hfyN En.lt (es.length / 2 - i) c = hfy En.lt es) es rfl rfl rfl F1 (news_sub N1 ?_) ?_ (by kst_all) ⟨rfl, hes, rfl⟩ ?_ ?_
  · show ∀ p ∈ _ :: _ :: _ :: rest, _
    walk_at "sub"
  · show ∀ p ∈ _ :: _ :: rest, _
    intro p hp
    have := hI1 p (by rcases List.mem_cons.mp hp with rfl | hp; exact .tail _ (.head _); rcases List.mem_cons.mp hp with rfl | hp; exact .head _; exact .tail _ (.tail _ hp))
    exact Nat.ne_of_lt this
  · clear F1 N1
    rintro i c u1 h1 tk1 t1 io hi ⟨hP1, hP2, hP3⟩ off1 F1 N1
    have hc : c.length ≤ 1000 := hP1 ▸ hlen
    have hrI := off1 (l, listOf (vals c).toArray n) (by simp)
    dsimp only at hrI
    simp only [List.singleton_append] at N1
    k_steps
    refine ⟨sup En.lt c (es.length / 2 - 1 - i), _, _, _, rfl, by assumption, ?_, List.forall_mem_cons.mpr ⟨hrI, fun p hp => off1 p (List.mem_append_right _ hp)⟩, by kst_all, ?_, ?_, ?_⟩
    · rw [← o_h1 hi]
      assumption
    · rw [sup_length]; exact hP1
    · exact fun e he => hP2 e ((sup_perm En.lt c _).mem_iff.mp he)
    · rw [← hP3]
      rw [o_h2 hi, o_h3]; rfl
  · rintro c u1 h1 tk1 ⟨hP1, hP2, hP3⟩ F1 N1
    rw [Nat.sub_self] at hP3
    have hP4 : c = hfy En.lt es := hP3
    subst hP4
    k_steps
    exact ret _ _ (by assumption) (news_sub (a := (l, _) :: (r1, _) :: rest) (by assumption) (by walk_at "sub"))
theorem heapifyM_does (w : World) {mean : ExcName → Option Value} {mg mb : Str → Option Value} {dp un : Nat} {gd : Option (List Code)} {cn : Str} {cs : Scope} {a : Addr} {ccd : Value} {cl : List (Str × Addr)} {outer : List Env} {A₀ : Around} {base h₀ : Heap} {L : Addr} {m : Str → Option Value} {s : Shared}
    {Q E : Value → Shared → Prop} {l : Addr} {es : List En} {n : Nat} {rest : List (Addr × Obj)}
    (B : Below A₀ base outer h₀) (F : Fr h₀ L s.heap m) (X : (hd.heap_39 w.params).In h₀) (N : News h₀ L s.heap ((l, listOf (vals es).toArray n) :: rest)) (T : Top hd.view_39 (looseW hd.view_39 []) mean mg mb h₀) (hk : cs.kind = .function)
    (hoff : ∀ p ∈ rest, p.1 ≠ l) (hes : ∀ e ∈ es, (e.t, e.obj) ∈ rest) (hlen : es.length ≤ 1000) (hdp : dp + 30 < recursionLimit) (hun : un + 240 < cLine)
    (ret : ∀ h' tk', Fr h₀ L h' m → News h₀ L h' ((l, listOf (vals (hfy En.gt es)).toArray n) :: rest) → Q .none { s with heap := h', toks := tk' }) :
    wpAny (model PySem.Challenge.rw_mr0198_01.row.prog w) (ktrTop dp un gd cn cs L a ccd cl outer) (call (.ref 49) [.ref l]) Q E s := by
  w_on
  revert X; k_fill; intro X
  refine wpAny_call ?_
  k_dflt ktr_enter
  walk_at "to for"
  refine wpAny_For ?_
  k_steps
  rename Fr _ _ _ _ => F1
  rename News _ _ _ _ => N1
  rename_i r1 _ _ t1 u1 v1 hr1 I1 _ hI1
  have hlr : @LT.lt Nat _ l r1 := hr1 (l, _) (.head _)
  have hlI : @LT.lt Nat _ l I1 := hI1 (l, _) (.tail _ (.head _))
  have hn2 : (es.length : Int) / 2 = ((es.length / 2 : Nat) : Int) := rfl
  rw [hn2] at N1
  refine for_range (σ := List En) (n := es.length / 2) (a := ((es.length / 2 : Nat) : Int) - 1) (step := -1) (fun c => [(l, listOf (vals c).toArray n)]) (fun _ => (r1, rngO 0 ((es.length / 2 : Nat) : Int) 1 t1 u1 v1) :: rest) (fun _ => [("x", .ref l)])
    (fun i c => c.length = es.length ∧ (∀ e ∈ c, (e.t, e.obj) ∈ rest) ∧ hfyN En.gt (es.length / 2 - i) c = hfy En.gt es) es rfl rfl rfl F1 (news_sub N1 ?_) ?_ (by kst_all) ⟨rfl, hes, rfl⟩ ?_ ?_
  · show ∀ p ∈ _ :: _ :: _ :: rest, _
    walk_at "sub"
  · show ∀ p ∈ _ :: _ :: rest, _
    intro p hp
    have := hI1 p (by rcases List.mem_cons.mp hp with rfl | hp; exact .tail _ (.head _); rcases List.mem_cons.mp hp with rfl | hp; exact .head _; exact .tail _ (.tail _ hp))
    exact Nat.ne_of_lt this
  · clear F1 N1
    rintro i c u1 h1 tk1 t1 io hi ⟨hP1, hP2, hP3⟩ off1 F1 N1
    have hc : c.length ≤ 1000 := hP1 ▸ hlen
    have hrI := off1 (l, listOf (vals c).toArray n) (by simp)
    dsimp only at hrI
    simp only [List.singleton_append] at N1
    k_steps
    refine ⟨sup En.gt c (es.length / 2 - 1 - i), _, _, _, rfl, by assumption, ?_, List.forall_mem_cons.mpr ⟨hrI, fun p hp => off1 p (List.mem_append_right _ hp)⟩, by kst_all, ?_, ?_, ?_⟩
    · rw [← o_h1 hi]
      assumption
    · rw [sup_length]; exact hP1
    · exact fun e he => hP2 e ((sup_perm En.gt c _).mem_iff.mp he)
    · rw [← hP3]
      rw [o_h2 hi, o_h3]; rfl
  · rintro c u1 h1 tk1 ⟨hP1, hP2, hP3⟩ F1 N1
    rw [Nat.sub_self] at hP3
    have hP4 : c = hfy En.gt es := hP3
    subst hP4
    k_steps
    exact ret _ _ (by assumption) (news_sub (a := (l, _) :: (r1, _) :: rest) (by assumption) (by walk_at "sub"))
theorem heapreplace_does (w : World) {mean : ExcName → Option Value} {mg mb : Str → Option Value} {dp un : Nat} {gd : Option (List Code)} {cn : Str} {cs : Scope} {a : Addr} {ccd : Value} {cl : List (Str × Addr)} {outer : List Env} {A₀ : Around} {base h₀ : Heap} {L : Addr} {m : Str → Option Value} {s : Shared}
    {Q E : Value → Shared → Prop} {l : Addr} {es : List En} {n : Nat} {rest : List (Addr × Obj)} {it : En}
    (B : Below A₀ base outer h₀) (F : Fr h₀ L s.heap m) (X : (hd.heap_39 w.params).In h₀) (N : News h₀ L s.heap ((l, listOf (vals es).toArray n) :: rest)) (T : Top hd.view_39 (looseW hd.view_39 []) mean mg mb h₀) (hk : cs.kind = .function)
    (hoff : ∀ p ∈ rest, p.1 ≠ l) (hes : ∀ e ∈ es, (e.t, e.obj) ∈ rest) (hit : (it.t, it.obj) ∈ rest) (hlen : es.length ≤ 1000) (hpos : 0 < es.length) (hdp : dp + 30 < recursionLimit) (hun : un + 240 < cLine)
    (ret : ∀ e0 h' tk', es[0]? = some e0 → Fr h₀ L h' m → News h₀ L h' ((l, listOf (vals (sup En.lt (es.set 0 it) 0)).toArray n) :: rest) → Q (.ref e0.t) { s with heap := h', toks := tk' }) :
    wpAny (model PySem.Challenge.rw_mr0198_01.row.prog w) (ktrTop dp un gd cn cs L a ccd cl outer) (call (.ref 21) [.ref l, .ref it.t]) Q E s := by
  w_on
  revert X; k_fill; intro X
  refine wpAny_call ?_
  k_dflt ktr_enter
  k_steps
  exact ret _ _ _ (by assumption) (by assumption) (by assumption)
theorem heapreplaceM_does (w : World) {mean : ExcName → Option Value} {mg mb : Str → Option Value} {dp un : Nat} {gd : Option (List Code)} {cn : Str} {cs : Scope} {a : Addr} {ccd : Value} {cl : List (Str × Addr)} {outer : List Env} {A₀ : Around} {base h₀ : Heap} {L : Addr} {m : Str → Option Value} {s : Shared}
    {Q E : Value → Shared → Prop} {l : Addr} {es : List En} {n : Nat} {rest : List (Addr × Obj)} {it : En}
    (B : Below A₀ base outer h₀) (F : Fr h₀ L s.heap m) (X : (hd.heap_39 w.params).In h₀) (N : News h₀ L s.heap ((l, listOf (vals es).toArray n) :: rest)) (T : Top hd.view_39 (looseW hd.view_39 []) mean mg mb h₀) (hk : cs.kind = .function)
    (hoff : ∀ p ∈ rest, p.1 ≠ l) (hes : ∀ e ∈ es, (e.t, e.obj) ∈ rest) (hit : (it.t, it.obj) ∈ rest) (hlen : es.length ≤ 1000) (hpos : 0 < es.length) (hdp : dp + 30 < recursionLimit) (hun : un + 240 < cLine)
    (ret : ∀ e0 h' tk', es[0]? = some e0 → Fr h₀ L h' m → News h₀ L h' ((l, listOf (vals (sup En.gt (es.set 0 it) 0)).toArray n) :: rest) → Q (.ref e0.t) { s with heap := h', toks := tk' }) :
    wpAny (model PySem.Challenge.rw_mr0198_01.row.prog w) (ktrTop dp un gd cn cs L a ccd cl outer) (call (.ref 42) [.ref l, .ref it.t]) Q E s := by
  w_on
  revert X; k_fill; intro X
  refine wpAny_call ?_
  k_dflt ktr_enter
  k_steps
  exact ret _ _ _ (by assumption) (by assumption) (by assumption)
theorem heappopM_does (w : World) {mean : ExcName → Option Value} {mg mb : Str → Option Value} {dp un : Nat} {gd : Option (List Code)} {cn : Str} {cs : Scope} {a : Addr} {ccd : Value} {cl : List (Str × Addr)} {outer : List Env} {A₀ : Around} {base h₀ : Heap} {L : Addr} {m : Str → Option Value} {s : Shared}
    {Q E : Value → Shared → Prop} {l : Addr} {es : List En} {n : Nat} {rest : List (Addr × Obj)}
    (B : Below A₀ base outer h₀) (F : Fr h₀ L s.heap m) (X : (hd.heap_39 w.params).In h₀) (N : News h₀ L s.heap ((l, listOf (vals es).toArray n) :: rest)) (T : Top hd.view_39 (looseW hd.view_39 []) mean mg mb h₀) (hk : cs.kind = .function)
    (hoff : ∀ p ∈ rest, p.1 ≠ l) (hes : ∀ e ∈ es, (e.t, e.obj) ∈ rest) (hlen : es.length ≤ 1000) (hpos : 0 < es.length) (hdp : dp + 30 < recursionLimit) (hun : un + 240 < cLine)
    (ret : ∀ e0 h' tk' n', es[0]? = some e0 → Fr h₀ L h' m → News h₀ L h' ((l, listOf (vals (hpop En.gt es)).toArray n') :: rest) → Q (.ref e0.t) { s with heap := h', toks := tk' }) :
    wpAny (model PySem.Challenge.rw_mr0198_01.row.prog w) (ktrTop dp un gd cn cs L a ccd cl outer) (call (.ref 35) [.ref l]) Q E s := by
  w_on
  revert X; k_fill; intro X
  obtain ⟨ini, z, rfl⟩ : ∃ ini z, es = ini ++ [z] := ⟨es.dropLast, es.getLast (by intro h; rw [h] at hpos; simp at hpos), (List.dropLast_concat_getLast _).symm⟩
  have hini : ini.length ≤ 1000 := by rw [List.length_append] at hlen; omega
  have hes1 : ∀ e ∈ ini, (e.t, e.obj) ∈ rest := fun e he => hes e (List.mem_append_left _ he)
  have hz1 : (z.t, z.obj) ∈ rest := hes z (by simp)
  refine wpAny_call ?_
  k_dflt ktr_enter
  k_steps
  · refine ret _ _ _ (n + 1) (pre_get (by assumption)) (by assumption) ?_
    rw [hpop_more _ _ _ (by omega)]
    assumption
  · have h0 : ini.length = 0 := by omega
    refine ret z _ _ (n + 1) ?_ (by assumption) ?_
    · cases ini with
      | nil => rfl
      | cons _ _ => simp at h0
    · rw [hpop_one _ _ _ h0]
      assumption
local macro_rules | `(tactic| walk_at "enterT") => `(tactic| (refine code_cellsT (by k_asm) (by k_asm) (by k_asm) (by k_asm) (by k_asm) rfl rfl (by walk_at "hk") (by k_is) (by k_is) (by ktr_room) (by exact BindsTo.of_eq rfl) rfl (by decide +kernel) ?_ rfl rfl rfl; intro g' L' h' tk' cells' ht' FG' F' N' Y' B' X' T' l1; k_cells Y'; (try simp only [List.cons_append, List.nil_append] at N'); (try dsimp only); (try k_fold)))
local macro_rules | `(tactic| walk_at "to comp") => `(tactic| repeat' ((fail_if_success (with_reducible show wpAny _ _ (eval (Expr.ListComp _ _ _ _) _) _ _ _)); (fail_if_success (with_reducible show wpAny _ _ (exec (Stmt.Assign _ (Expr.ListComp _ _ _ _) _) _) _ _ _)); walk_at "st"))
local macro_rules | `(tactic| walk_at "to src") => `(tactic| repeat' ((fail_if_success (with_reducible show PyProof.Rows.LCg.CompSrc _ _ _ _ _ _ _ _ _ _ _ _ _ _)); (fail_if_success (with_reducible show PyProof.Rows.LCp.SrcLP _ _ _ _ _ _ _ _ _ _ _ _ _ _ _)); (fail_if_success (with_reducible show PyProof.Rows.LCt.CompSrcT _ _ _ _ _ _ _ _ _ _ _ _ _ _ _)); walk_at "st"))
local macro_rules | `(tactic| walk_at "call ref") => `(tactic| (k_here; (with_reducible show wpAny _ _ (call (Value.ref 84) _) _ _ _); k_dflt (refine opeq_does _ (by k_asm) (by k_asm) (by k_asm) (by k_asm) (by k_asm) (by walk_at "hk") (by ktr_room) (by ktr_units) ?_); walk_at "in"))
local macro_rules | `(tactic| walk_at "call ref") => `(tactic| (k_here; (with_reducible show wpAny _ _ (call (Value.ref 91) _) _ _ _); k_dflt (refine opadd_does _ (by k_asm) (by k_asm) (by k_asm) (by k_asm) (by k_asm) (by walk_at "hk") (by ktr_room) (by ktr_units) ?_); walk_at "in"))
local macro_rules | `(tactic| walk_at "call ref") => `(tactic| (k_here; (with_reducible show wpAny _ _ (call (Value.ref 98) _) _ _ _); k_dflt (refine opfloordiv_does _ (by k_asm) (by k_asm) (by k_asm) (by k_asm) (by k_asm) (by walk_at "hk") (by ktr_room) (by ktr_units) (by first | omega | exact step_pos (by assumption) (by assumption)) (by first | omega | exact step_lt (by assumption) (by assumption)) ?_); walk_at "in"))
local macro_rules | `(tactic| walk_at "call ref") => `(tactic| (k_here; (with_reducible show wpAny _ _ (call (Value.ref 105) _) _ _ _); k_dflt (refine opmod_does _ (by k_asm) (by k_asm) (by k_asm) (by k_asm) (by k_asm) (by walk_at "hk") (by ktr_room) (by ktr_units) (by first | omega | exact step_pos (by assumption) (by assumption)) ?_); walk_at "in"))
local macro_rules | `(tactic| walk_at "call ref") => `(tactic| (k_here; (with_reducible show wpAny _ _ (call (Value.ref 112) _) _ _ _); k_dflt (refine opmul_does _ (by k_asm) (by k_asm) (by k_asm) (by k_asm) (by k_asm) (by walk_at "hk") (by ktr_room) (by ktr_units) (by first | omega | exact step_lo (by assumption) (by assumption)) (by first | omega | exact step_hi (by assumption) (by assumption)) (by walk_at "om") (by first | omega | exact cnt_hi (by assumption)) ?_); walk_at "in"))
local macro_rules | `(tactic| walk_at "call ref") => `(tactic| (k_here; (with_reducible show wpAny _ _ (call (Value.ref 119) _) _ _ _); k_dflt (refine opsub_does _ (by k_asm) (by k_asm) (by k_asm) (by k_asm) (by k_asm) (by walk_at "hk") (by ktr_room) (by ktr_units) ?_); walk_at "in"))
section
local macro_rules | `(tactic| walk_at "call builtin:len") => `(tactic| (k_here; k_dflt (refine len_EnT (by k_asm) (by k_mem) (by assumption) ?_); intros))
local macro_rules | `(tactic| walk_at "call type:range") => `(tactic| (k_here; (with_reducible show wpAny _ _ (call _ [_]) _ _ _); k_dflt (refine range1_LT (by k_asm) (by k_asm) ?_); walk_at "in"))
local macro_rules | `(tactic| walk_at "to rsrc") => `(tactic| repeat' ((fail_if_success (with_reducible show RtSrc _ _ _ _ _ _ _ _ _ _ _ _ _ _)); walk_at "st"))
theorem firsts_does (w : World) {mean : ExcName → Option Value} {mg mb : Str → Option Value} {dp un : Nat} {gd : Option (List Code)} {cn : Str} {cs : Scope} {a : Addr} {ccd : Value} {cl : List (Str × Addr)} {outer : List Env} {A₀ : Around} {base h₀ : Heap} {L : Addr} {m : Str → Option Value} {s : Shared}
    {Q E : Value → Shared → Prop} {lc : Addr} {ks : List En} {nc : Nat} {news : List (Addr × Obj)}
    (B : Below A₀ base outer h₀) (F : Fr h₀ L s.heap m) (X : (hd.heap_39 w.params).In h₀) (N : News h₀ L s.heap news) (T : Top hd.view_39 (looseW hd.view_39 []) mean mg mb h₀) (hk : cs.kind = .function)
    (hlc : (lc, listOf (vals ks).toArray nc) ∈ news) (hks : ∀ e ∈ ks, (e.t, e.obj) ∈ news) (hlen : ks.length ≤ 1000) (hdp : dp + 30 < recursionLimit) (hun : un + 240 < cLine)
    (ret : ∀ D es k rest h' tk', es.map En.d = firstsD (ks.map En.d) ks.length → (∀ e ∈ es, 0 < e.v ∧ e.v < tk') → (∀ p ∈ news, p ∈ rest) → (∀ e ∈ es, (e.t, e.obj) ∈ rest) → (∀ p ∈ rest, p.1 ≠ D) → Fr h₀ L h' m → News h₀ L h' ((D, listOf (vals es).toArray k) :: rest) → Q (.ref D) { s with heap := h', toks := tk' }) :
    wpAny (model PySem.Challenge.rw_mr0198_01.row.prog w) (ktrTop dp un gd cn cs L a ccd cl outer) (call (.ref 136) [.ref lc]) Q E s := by
  w_on
  revert X; k_fill; intro X
  refine wpAny_call ?_
  k_dflt (walk_at "enterT")
  walk_at "to comp"
  k_dflt (refine ListComp_rt (F₀ := by k_asm) (by rfl) (by decide) (by rfl) (by decide) (by rfl) ?_)
  walk_at "to rsrc"
  rename Fr _ _ _ _ => F1
  rename News _ _ _ _ => N1
  rename_i ob1 hcell1 _ tk1 htk1 r1 _ tk2 t1 u1 v1 htk2 hr1
  refine ⟨r1, ks.length, 1, t1, u1, v1, _, (fun i ys nw b => ∃ es : List En, ys = vals es ∧ es.map En.d = firstsD (ks.map En.d) i ∧ (∀ e ∈ es, 0 < e.v ∧ e.v < b) ∧ (∀ e ∈ es, (e.t, e.obj) ∈ nw) ∧ (∀ p ∈ (_, ob1) :: news, p ∈ nw)), rfl, rfl, F1, N1, .head _, hlen, ?_, ?_, ⟨[], rfl, rfl, (by intro e he; cases he), (by intro e he; cases he), fun p hp => .tail _ hp⟩, ?_, ?_⟩
  · show 1 ≤ tk2
    have h1 : _ < tk1 := htk1
    have h2 : tk1 ≤ tk2 := htk2
    omega
  · rintro i ys nw b b' ⟨es, h1, h2, h3, h4, h5⟩ hb
    exact ⟨es, h1, h2, fun e he => ⟨(h3 e he).1, Nat.lt_of_lt_of_le (h3 e he).2 hb⟩, h4, h5⟩
  · intro g1
    rintro i ys nw t2 I oI C oC D m₂ h tk E' hi ht1 ht2 ⟨es, rfl, h1, htk3, h2, h3⟩ hC hx F2 N2 off ne
    have hm1 := h3 _ (.head _)
    have hm2 := h3 _ (.tail _ hlc)
    have hm3 : ∀ e ∈ ks, (e.t, e.obj) ∈ nw := fun e he => h3 _ (.tail _ (hks e he))
    k_steps
    rename_i e1 he1 D1 _ _ _ l1
    refine comp_add (by assumption) (by assumption) l1 off trivial ⟨es ++ [⟨D1, e1.x, (i : Int), e1.u, t2, 0⟩], vals_snoc es ⟨D1, e1.x, (i : Int), e1.u, t2, 0⟩, map_snoc h1 ?_, ?_, has_snoc h2 (fun p hp => .tail _ hp) (.head _), fun p hp => .tail _ (h3 p hp)⟩
    · rw [cat_of he1]; rfl
    · intro e he
      rcases List.mem_append.mp he with q | q
      · exact htk3 e q
      · rw [List.mem_singleton.mp q]; exact ⟨ht1, ht2⟩
  · rintro D ys nw h tk F2 N2 o1 ⟨es, rfl, h1, htk3, h2, h3⟩
    k_steps
    exact ret D es (vals es).length nw _ _ h1 htk3 (fun p hp => h3 p (.tail _ hp)) h2 o1 (by assumption) (by assumption)
end
theorem stepsback_does (w : World) {mean : ExcName → Option Value} {mg mb : Str → Option Value} {dp un : Nat} {gd : Option (List Code)} {cn : Str} {cs : Scope} {a : Addr} {ccd : Value} {cl : List (Str × Addr)} {outer : List Env} {A₀ : Around} {base h₀ : Heap} {L : Addr} {m : Str → Option Value} {s : Shared}
    {Q E : Value → Shared → Prop} {lc l : Addr} {ks es : List En} {nc n : Nat} {news : List (Addr × Obj)}
    (B : Below A₀ base outer h₀) (F : Fr h₀ L s.heap m) (X : (hd.heap_39 w.params).In h₀) (N : News h₀ L s.heap news) (T : Top hd.view_39 (looseW hd.view_39 []) mean mg mb h₀) (hk : cs.kind = .function)
    (hlc : (lc, listOf (vals ks).toArray nc) ∈ news) (hks : ∀ e ∈ ks, (e.t, e.obj) ∈ news) (hlen : ks.length ≤ 1000) (hl : (l, listOf (vals es).toArray n) ∈ news) (hes : ∀ e ∈ es, (e.t, e.obj) ∈ news) (hlen2 : es.length ≤ 1000)
    (hin : ∀ e ∈ es, 0 ≤ e.y ∧ e.y < (ks.length : Int)) (hdp : dp + 30 < recursionLimit) (hun : un + 240 < cLine)
    (ret : ∀ D fs k rest h' tk', fs.map En.d = ((es.map En.d).map (backD (ks.map En.d))).filter (keepD (ks.map En.d)) → (∀ p ∈ news, p ∈ rest) → (∀ e ∈ fs, (e.t, e.obj) ∈ rest) → (∀ p ∈ rest, p.1 ≠ D) → Fr h₀ L h' m → News h₀ L h' ((D, listOf (vals fs).toArray k) :: rest) → Q (.ref D) { s with heap := h', toks := tk' }) :
    wpAny (model PySem.Challenge.rw_mr0198_01.row.prog w) (ktrTop dp un gd cn cs L a ccd cl outer) (call (.ref 162) [.ref lc, .ref l]) Q E s := by
  w_on
  revert X; k_fill; intro X
  refine wpAny_call ?_
  k_dflt (walk_at "enterT")
  walk_at "to comp"
  k_dflt (refine PyProof.Rows.LCp.Assign_ListComp_P (F₀ := by k_asm) (by rfl) (by with_unfolding_all rfl) (by rfl) (by decide) (by rfl) (by decide) (by rfl) (by rfl) (by decide) (by rfl) (by rfl) ?_)
  walk_at "to src"
  rename Fr _ _ _ _ => F1
  rename News _ _ _ _ => N1
  rename_i ob1 hcell1
  have hsz : (vals es).toArray.size = es.length := by rw [List.size_toArray]; exact vals_length es
  k_dflt (refine PyProof.Rows.LCp.SrcLP.ledger (by rfl) F1 N1 (.tail _ hl) (by have := sizeLine_eq; omega) ?_)
  intro g1
  rw [hsz]
  refine compRestP_inv (fun i ys nw => ∃ fs : List En, ys = vals fs ∧ fs.map En.d = ((es.take i).map En.d).map (backD (ks.map En.d)) ∧ (∀ e ∈ fs, (e.t, e.obj) ∈ nw) ∧ (∀ p ∈ (_, ob1) :: news, p ∈ nw)) (fun i e => es[i]? = some e) ?_ ?_ ?_ es.length 0 [] _ (Nat.zero_add _) ⟨[], rfl, rfl, (by intro e he; cases he), fun p hp => hp⟩
  · rintro i ys nw v hi hv ⟨fs, rfl, h1, h2, h3⟩
    obtain ⟨e, he, rfl⟩ := vals_at hv
    exact ⟨e, rfl, h3 _ (.tail _ (en_mem he hes)), he⟩
  · rintro i ys nw e I oI C oC D m₂ h tk E' hi he hem ⟨fs, rfl, h1, h2, h3⟩ hC hx hx2 F2 N2 off ne
    have hm1 := h3 _ (.head _)
    have hm2 := h3 _ (.tail _ hlc)
    have hm3 : ∀ e ∈ ks, (e.t, e.obj) ∈ nw := fun e he => h3 _ (.tail _ (hks e he))
    obtain ⟨hy1, hy2⟩ := hin e (List.mem_of_getElem? he)
    k_steps
    rename_i e1 he1 _ _ t2 D1 _ _ _ l1
    refine comp_add (by assumption) (by assumption) l1 off (.inr ⟨_, .tail _ (h3 _ (.tail _ hl)), rfl, _, rfl⟩) ⟨fs ++ [⟨D1, e.x - e1.y, e.y, t2, e.v, 0⟩], vals_snoc fs ⟨D1, e.x - e1.y, e.y, t2, e.v, 0⟩, ?_, has_snoc h2 (fun p hp => .tail _ hp) (.head _), fun p hp => .tail _ (h3 p hp)⟩
    rw [take_snoc he, List.map_append, List.map_append, List.map_append, h1]
    simp [backD, En.d, cat, he1]
  · rintro ys nw ⟨fs, rfl, h1, h2, h3⟩
    rw [List.take_length] at h1
    unfold PyProof.Rows.LCg.FinA
    intro D1 h tk F2 N2 o1
    clear F1 N1
    have hlen3 : fs.length = es.length := by have := congrArg List.length h1; simpa using this
    have hm1 := h3 _ (.head _)
    have hm2 := h3 _ (.tail _ hlc)
    have hm3 : ∀ e ∈ ks, (e.t, e.obj) ∈ nw := fun e he => h3 _ (.tail _ (hks e he))
    walk_at "to comp"
    k_dflt (refine PyProof.Rows.LCt.ListComp_T (F₀ := by k_asm) (by rfl) (by decide) (by rfl) (by decide) (by rfl) ?_)
    walk_at "to src"
    rename Fr _ _ _ _ => F1
    rename News _ _ _ _ => N1
    have hsz2 : (vals fs).toArray.size = fs.length := by rw [List.size_toArray]; exact vals_length fs
    k_dflt (refine PyProof.Rows.LCt.CompSrcT.ledger (by rfl) F1 N1 (.head _) (by have := sizeLine_eq; omega) ?_)
    intro g2
    rw [hsz2]
    refine compRestT_inv (fun i ys nw' => ∃ gs : List En, ys = vals gs ∧ gs = (fs.take i).filter (fun e => keepD (ks.map En.d) e.d) ∧ (∀ p ∈ (D1, PyProof.Rows.LCg.lst (vals fs)) :: nw, p ∈ nw')) ?_ ?_ fs.length 0 [] _ (Nat.zero_add _) ⟨[], rfl, rfl, fun p hp => hp⟩
    · rintro i ys nw' v I oI C oC D m₂ h tk E' hi hv ⟨gs, rfl, g1, g3⟩ hC hx F2 N2 off ne
      obtain ⟨e, he, rfl⟩ := vals_at hv
      have hm1' := g3 _ (.tail _ hm1)
      have hm2' := g3 _ (.tail _ hm2)
      have hm3' : ∀ e ∈ ks, (e.t, e.obj) ∈ nw' := fun e he => g3 _ (.tail _ (hm3 e he))
      have hem : (e.t, e.obj) ∈ nw' := g3 _ (.tail _ (en_mem he h2))
      obtain ⟨hy1, hy2⟩ : 0 ≤ e.y ∧ e.y < (ks.length : Int) := by
        have h4 : e.d ∈ fs.map En.d := List.mem_map.mpr ⟨e, List.mem_of_getElem? he, rfl⟩
        rw [h1, List.mem_map] at h4
        obtain ⟨d0, hd0, e4⟩ := h4
        obtain ⟨e0, he0, rfl⟩ := List.mem_map.mp hd0
        have e5 : e.y = e0.y := (congrArg Prod.snd e4).symm
        rw [e5]; exact hin e0 he0
      k_steps
      · rename_i e1 he1 hle
        refine PyProof.Rows.LCg.CompEnd.intro (by assumption) N2 nw' (fun p hp => hp) off (.inr ⟨_, g3 _ (.head _), rfl, _, rfl⟩) ⟨gs ++ [e], vals_snoc gs e, ?_, g3⟩
        have hkeep : keepD (ks.map En.d) e.d = true := by
          show decide ((cat (ks.map En.d) e.y).1 ≤ e.x) = true
          rw [cat_of he1]; exact decide_eq_true hle
        rw [take_snoc he, List.filter_append, ← g1, List.filter_cons, if_pos hkeep]; rfl
      · rename_i e1 he1 hle
        refine PyProof.Rows.LCg.CompEnd.intro (by assumption) N2 nw' (fun p hp => hp) off (.inr ⟨_, g3 _ (.head _), rfl, _, rfl⟩) ⟨gs, rfl, ?_, g3⟩
        have hkeep : ¬ keepD (ks.map En.d) e.d = true := by
          show ¬ decide ((cat (ks.map En.d) e.y).1 ≤ e.x) = true
          rw [cat_of he1]; exact fun q => hle (of_decide_eq_true q)
        rw [take_snoc he, List.filter_append, ← g1, List.filter_cons, if_neg hkeep]; simp
    · rintro ys nw' ⟨gs, rfl, g1, g3⟩
      rw [List.take_length] at g1
      unfold PyProof.Rows.LCg.FinE
      intro D2 h tk F3 N3 o2
      k_steps
      refine ret D2 gs (vals gs).length nw' _ _ ?_ (fun p hp => g3 _ (.tail _ (h3 p (.tail _ hp)))) ?_ (off1_mem o2) (by assumption) (by assumption)
      · rw [g1, ← h1, List.filter_map]; rfl
      · rw [g1]; exact fun e he => g3 _ (.tail _ (h2 e (List.mem_filter.mp he).1))
local macro_rules | `(tactic| walk_at "compareOp Is") => `(tactic| (k_here; k_dflt (refine is_int_L (by assumption) (by assumption) (by first | assumption | exact Nat.ne_of_lt (by assumption)) (by assumption) (by assumption) ?_)))
theorem countOf_does (w : World) {mean : ExcName → Option Value} {mg mb : Str → Option Value} {dp un : Nat} {gd : Option (List Code)} {cn : Str} {cs : Scope} {a : Addr} {ccd : Value} {cl : List (Str × Addr)} {outer : List Env} {A₀ : Around} {base h₀ : Heap} {L : Addr} {m : Str → Option Value} {s : Shared}
    {Q E : Value → Shared → Prop} {pl : Addr} {qs : List (Int × Tok)} {np : Nat} {news : List (Addr × Obj)} {q : Int} {u : Tok}
    (B : Below A₀ base outer h₀) (F : Fr h₀ L s.heap m) (X : (hd.heap_39 w.params).In h₀) (N : News h₀ L s.heap news) (T : Top hd.view_39 (looseW hd.view_39 []) mean mg mb h₀) (hk : cs.kind = .function)
    (hpl : (pl, listOf (intV qs).toArray np) ∈ news) (hqs : ∀ p ∈ qs, (@LT.lt Nat _ 0 p.2) ∧ (@LT.lt Nat _ p.2 u)) (hlen : qs.length ≤ 1000) (hq0 : 0 ≤ q) (hq1 : q ≤ 200) (hdp : dp + 30 < recursionLimit) (hun : un + 240 < cLine)
    (ret : ∀ t h' tk', Fr h₀ L h' m → News h₀ L h' news → Q (.int ((qs.countP (fun p => decide (p.1 = q)) : Nat) : Int) t) { s with heap := h', toks := tk' }) :
    wpAny (model PySem.Challenge.rw_mr0198_01.row.prog w) (ktrTop dp un gd cn cs L a ccd cl outer) (call (.ref 126) [.ref pl, .int q u]) Q E s := by
  w_on
  revert X; k_fill; intro X
  refine wpAny_call ?_
  k_dflt ktr_enter
  walk_at "to for"
  refine wpAny_For ?_
  k_steps
  rename Fr _ _ _ _ => F1
  rename News _ _ _ _ => N1
  refine iter_list_L F1 N1 hpl ?_
  clear F1 N1
  intro I1 h1 oI1 hoI1 F1 N1 lt1
  have hoffI : ∀ p ∈ news, p.1 ≠ I1 := fun p hp => Nat.ne_of_lt (lt1 p hp)
  refine for_list (σ := Int × Tok) (its := intV qs) (nl := np) (oI := oI1) (fun _ => []) (fun _ => news) (fun c => [("b", .int q u), ("count", .int c.1 c.2)])
    (fun i c => c.1 = (((qs.take i).countP (fun p => decide (p.1 = q)) : Nat) : Int)) (0, _) rfl rfl rfl (fun _ => hpl) hoI1 F1 N1 hoffI (by kst_all) (by simp) ?_ ?_
  · clear F1 N1
    rintro i ⟨c, ct⟩ u1 h1 tk1 v io hv hP off1 F1 N1
    dsimp only at hP off1 F1 N1
    simp only [List.nil_append] at N1 off1
    obtain ⟨p, hp, rfl⟩ : ∃ p, qs[i]? = some p ∧ v = .int p.1 p.2 := by
      simp only [intV, List.getElem?_map] at hv
      cases e : qs[i]? with
      | none => rw [e] at hv; cases hv
      | some p => rw [e] at hv; cases hv; exact ⟨p, rfl, rfl⟩
    obtain ⟨hp1, hp2⟩ := hqs p (List.mem_of_getElem? hp)
    have hu0 : @LT.lt Nat _ 0 u := Nat.lt_trans hp1 hp2
    k_steps
    · exact ⟨(c + 1, _), _, _, _, rfl, by assumption, by assumption, off1, by kst_all, by dsimp only; rw [cnt_yes hp (by assumption), hP]⟩
    · exact ⟨(c + 1, _), _, _, _, rfl, by assumption, by assumption, off1, by kst_all, by dsimp only; rw [cnt_yes hp (by assumption), hP]⟩
    · exact ⟨(c, ct), _, _, _, rfl, by assumption, by assumption, off1, by kst_all, by dsimp only; rw [cnt_no hp (by assumption), hP]⟩
  · rintro ⟨c, ct⟩ u1 h1 tk1 hP F1 N1
    dsimp only at hP F1 N1
    k_steps
    have e1 : (intV qs).length = qs.length := by simp [intV]
    rw [e1, List.take_length] at hP
    rw [hP]
    exact ret _ _ _ (by assumption) (by assumption)
local macro_rules | `(tactic| walk_at "call ref") => `(tactic| (k_here; (with_reducible show wpAny _ _ (call (Value.ref 126) _) _ _ _); k_dflt (refine countOf_does _ (by k_asm) (by k_asm) (by k_asm) (by k_asm) (by k_asm) (by walk_at "hk") (by k_mem) (by assumption) (by assumption) (by walk_at "om") (by walk_at "om") (by ktr_room) (by ktr_units) ?_); walk_at "in"))
local macro_rules | `(tactic| walk_at "to rsrc") => `(tactic| repeat' ((fail_if_success (with_reducible show RtSrc _ _ _ _ _ _ _ _ _ _ _ _ _ _)); (fail_if_success (with_reducible show _ ≤ _ → RtSrc _ _ _ _ _ _ _ _ _ _ _ _ _ _)); walk_at "st"))
theorem next_does (w : World) {mean : ExcName → Option Value} {mg mb : Str → Option Value} {dp un : Nat} {gd : Option (List Code)} {cn : Str} {cs : Scope} {a : Addr} {ccd : Value} {cl : List (Str × Addr)} {outer : List Env} {A₀ : Around} {base h₀ : Heap} {L : Addr} {m : Str → Option Value} {s : Shared}
    {Q E : Value → Shared → Prop} {lc lt : Addr} {ks ts : List En} {nc nt T₁ : Nat} {news : List (Addr × Obj)}
    (B : Below A₀ base outer h₀) (F : Fr h₀ L s.heap m) (X : (hd.heap_39 w.params).In h₀) (N : News h₀ L s.heap news) (T : Top hd.view_39 (looseW hd.view_39 []) mean mg mb h₀) (hk : cs.kind = .function)
    (hlc : (lc, listOf (vals ks).toArray nc) ∈ news) (hks : ∀ e ∈ ks, (e.t, e.obj) ∈ news) (hlen : ks.length ≤ 100) (hst : ∀ e ∈ ks, 0 < e.y ∧ e.y ≤ 10)
    (hlt : (lt, listOf (vals ts).toArray nt) ∈ news) (hts : ∀ e ∈ ts, (e.t, e.obj) ∈ news) (hlen2 : ts.length ≤ 100) (htk : ∀ e ∈ ts, (@LT.lt Nat _ 0 e.v) ∧ (@LT.lt Nat _ e.v T₁)) (hT₁ : T₁ ≤ s.toks) (hdp : dp + 60 < recursionLimit) (hun : un + 480 < cLine)
    (ret : ∀ D es k rest h' tk', es.map En.d = nextD (ks.map En.d) (ts.map En.y) ks.length → (∀ p ∈ news, p ∈ rest) → (∀ e ∈ es, (e.t, e.obj) ∈ rest) → (∀ p ∈ rest, p.1 ≠ D) → Fr h₀ L h' m → News h₀ L h' ((D, listOf (vals es).toArray k) :: rest) → Q (.ref D) { s with heap := h', toks := tk' }) :
    wpAny (model PySem.Challenge.rw_mr0198_01.row.prog w) (ktrTop dp un gd cn cs L a ccd cl outer) (call (.ref 188) [.ref lc, .ref lt]) Q E s := by
  have hlen' : ks.length ≤ 1000 := by omega
  have hlen2' : (ts.map (fun e => (e.y, e.v))).length ≤ 1000 := by rw [List.length_map]; omega
  w_on
  revert X; k_fill; intro X
  refine wpAny_call ?_
  k_dflt (walk_at "enterT")
  walk_at "to comp"
  rename_i L1 _ _ _ _ _ _ _ _ hL1 ob1 ob2 hcell1 hcell2 _
  refine wpAny_with_toks (n := T₁) (Nat.le_trans hT₁ (by assumption)) ?_
  refine wpAny_Assign_Name ?_ (by rfl)
  k_dflt (refine PyProof.Rows.LCp.ListComp_P (F₀ := by k_asm) (by rfl) (by decide) (by rfl) (by decide) (by rfl) (by rfl) (by decide) ?_)
  walk_at "to src"
  rename Fr _ _ _ _ => F1
  rename News _ _ _ _ => N1
  have hsz : (vals ts).toArray.size = ts.length := by rw [List.size_toArray]; exact vals_length ts
  k_dflt (refine PyProof.Rows.LCp.SrcLP.ledger (by rfl) F1 N1 (.tail _ (.tail _ hlt)) (by have := sizeLine_eq; omega) ?_)
  intro g1
  rw [hsz]
  refine compRestP_inv (fun i ys nw => ys = intV ((ts.take i).map (fun e => (e.y, e.v))) ∧ (∀ p ∈ (L1 + 1 + 1, ob1) :: (L1 + 1, ob2) :: news, p ∈ nw)) (fun i e => ts[i]? = some e) ?_ ?_ ?_ ts.length 0 [] _ (Nat.zero_add _) ⟨rfl, fun p hp => hp⟩
  · rintro i ys nw v hi hv ⟨rfl, h3⟩
    obtain ⟨e, he, rfl⟩ := vals_at hv
    exact ⟨e, rfl, h3 _ (.tail _ (.tail _ (en_mem he hts))), he⟩
  · rintro i ys nw e I oI C oC D m₂ h tk E' hi he hem ⟨rfl, h3⟩ hC hx hx2 F2 N2 off ne
    k_steps
    refine PyProof.Rows.LCg.CompEnd.intro (by assumption) N2 nw (fun p hp => hp) off (.inr ⟨_, h3 _ (.tail _ (.tail _ hlt)), rfl, _, rfl⟩) ⟨?_, h3⟩
    rw [take_snoc he, List.map_append]; simp [intV]
  · rintro ys nw ⟨rfl, h3⟩
    rw [List.take_length]
    unfold PyProof.Rows.LCg.FinE
    intro D1 h tk F2 N2 o1
    clear F1 N1
    have N3 := news_sub (b := (D1, PyProof.Rows.LCg.lst (intV (ts.map (fun e => (e.y, e.v))))) :: (L1 + 1 + 1, ob1) :: (L1 + 1, ob2) :: news) N2 (List.forall_mem_cons.mpr ⟨.head _, fun p hp => .tail _ (h3 p hp)⟩)
    have hD1 : ∀ p ∈ (L1 + 1 + 1, ob1) :: (L1 + 1, ob2) :: news, p.1 ≠ D1 := fun p hp => off1_mem o1 p (h3 p hp)
    have hD2 : @Ne Nat _ D1 := hD1 _ (.head _)
    have hD3 : @Ne Nat _ D1 := hD1 _ (.tail _ (.head _))
    have hL2 := below_ne2 hL1
    clear N2
    walk_at "to comp"
    rename Fr _ _ _ _ => F1
    rename News _ _ _ _ => N1
    rename_i o2 hcell3 hT3
    k_dflt (refine ListComp_rt (F₀ := F1) (by rfl) (by decide) (by rfl) (by decide) (by rfl) ?_)
    refine wpAny_with_toks (n := T₁) (by assumption) ?_
    walk_at "to rsrc"
    rename_i htk3
    rename Fr _ _ _ _ => F1
    rename News _ _ _ _ => N1
    rename_i r1 _ _ t1 u1 v1 hr1
    refine ⟨r1, ks.length, T₁, t1, u1, v1, _, (fun i ys nw _ => ∃ es : List En, ys = vals es ∧ es.map En.d = nextD (ks.map En.d) (ts.map En.y) i ∧ (∀ e ∈ es, (e.t, e.obj) ∈ nw) ∧ (∀ p ∈ (D1, PyProof.Rows.LCg.lst (intV (ts.map (fun e => (e.y, e.v))))) :: (L1 + 1 + 1, o2) :: (L1 + 1, ob2) :: news, p ∈ nw)), rfl, rfl, F1, N1, .head _, hlen', htk3, (fun _ _ _ _ _ h _ => h), ⟨[], rfl, rfl, (by intro e he; cases he), fun p hp => .tail _ hp⟩, ?_, ?_⟩
    · intro g2
      rintro i ys nw2 t2 I oI C oC D m₂ h tk E' hi ht1 ht2 ⟨es, rfl, h1, h2, h4⟩ hC hx F2 N2 off ne
      have hm0 := h4 _ (.head _)
      have hm1 := h4 _ (.tail _ (.head _))
      have hm2 := h4 _ (.tail _ (.tail _ (.head _)))
      have hm3 := h4 _ (.tail _ (.tail _ (.tail _ hlc)))
      have hm4 : ∀ e ∈ ks, (e.t, e.obj) ∈ nw2 := fun e he => h4 _ (.tail _ (.tail _ (.tail _ (hks e he))))
      have hqs : ∀ p ∈ ts.map (fun e => (e.y, e.v)), (@LT.lt Nat _ 0 p.2) ∧ (@LT.lt Nat _ p.2 t2) := by
        intro p hp
        obtain ⟨e, he, rfl⟩ := List.mem_map.mp hp
        exact ⟨(htk e he).1, Nat.lt_of_lt_of_le (htk e he).2 ht1⟩
      k_steps
      rename_i e1 he1 e2 he2 _ _ _ _ _ t3 D2 _ _ _ l1
      have e3 : e2 = e1 := by rw [he1] at he2; exact (Option.some.inj he2).symm
      subst e3
      refine comp_add (by assumption) (by assumption) l1 off trivial ⟨es ++ [⟨D2, e2.x + e2.y * _, (i : Int), _, t2, 0⟩], vals_snoc es ⟨D2, e2.x + e2.y * _, (i : Int), _, t2, 0⟩, map_snoc h1 ?_, has_snoc h2 (fun p hp => .tail _ hp) (.head _), fun p hp => .tail _ (h4 p hp)⟩
      rw [cat_of he1, ← cnt_places]; rfl
    · rintro D ys nw2 h tk F2 N2 o2 ⟨es, rfl, h1, h2, h4⟩
      k_steps
      exact ret D es (vals es).length nw2 _ _ h1 (fun p hp => h4 p (.tail _ (.tail _ (.tail _ hp)))) h2 o2 (by assumption) (by assumption)
local macro_rules | `(tactic| walk_at "call builtin:list.append") => `(tactic| (k_here; (with_reducible show wpAny _ _ (call (Value.builtin _) [Value.ref _, Value.ref (En.t _)]) _ _ _); k_dflt (refine append_En (by k_asm) (by k_asm) (by k_upd) (by walk_at "om") ?_); walk_at "in"))
local macro_rules | `(tactic| walk_at "call ref") => `(tactic| (k_here; (show wpAny _ _ (call (Value.ref 21) [Value.ref _, Value.ref (En.t _)]) _ _ _); k_dflt (refine heapreplace_does _ (by k_asm) (by k_asm) (by k_asm) (by walk_at "news") (by k_asm) (by walk_at "hk") (by walk_at "off") (by walk_at "has") (by k_mem) (by walk_at "len") (by walk_at "len") (by ktr_room) (by ktr_units) ?_); walk_at "in"))
local macro_rules | `(tactic| walk_at "call ref") => `(tactic| (k_here; (show wpAny _ _ (call (Value.ref 42) [Value.ref _, Value.ref (En.t _)]) _ _ _); k_dflt (refine heapreplaceM_does _ (by k_asm) (by k_asm) (by k_asm) (by walk_at "news") (by k_asm) (by walk_at "hk") (by walk_at "off") (by walk_at "has") (by k_mem) (by walk_at "len") (by walk_at "len") (by ktr_room) (by ktr_units) ?_); walk_at "in"))
local macro_rules | `(tactic| walk_at "subscriptTail") => `(tactic| (k_here; (with_reducible show wpAny _ _ (subscriptTail _ _ (Value.ref _) (Value.int (En.y _) _)) _ _ _); k_dflt (refine item_En (by k_asm) (by k_mem) (by first | omega | exact in_lo (by assumption) (by assumption)) (by first | omega | exact in_hi (by assumption) (by assumption)) (by assumption) ?_ (by with_unfolding_all rfl) (by intro _; with_unfolding_all rfl)); intros))
local macro_rules | `(tactic| walk_at "call ref") => `(tactic| (k_here; (with_reducible show wpAny _ _ (call (Value.ref 21) _) _ _ _); (fail_if_success (with_reducible show wpAny _ _ (call _ [_, Value.ref (En.t _)]) _ _ _)); k_dflt (refine' heapreplace_does (it := En.mk _ ?ex ?ey ?eu ?ev ?en) _ (by k_asm) (by k_asm) (by k_asm) (by walk_at "news") (by k_asm) (by walk_at "hk") (by walk_at "off") (by walk_at "has") (by k_mem) (by walk_at "len") (by walk_at "len") (by ktr_room) (by ktr_units) ?_); walk_at "in"))
local macro_rules | `(tactic| walk_at "call ref") => `(tactic| (k_here; (with_reducible show wpAny _ _ (call (Value.ref 42) _) _ _ _); (fail_if_success (with_reducible show wpAny _ _ (call _ [_, Value.ref (En.t _)]) _ _ _)); k_dflt (refine' heapreplaceM_does (it := En.mk _ ?ex ?ey ?eu ?ev ?en) _ (by k_asm) (by k_asm) (by k_asm) (by walk_at "news") (by k_asm) (by walk_at "hk") (by walk_at "off") (by walk_at "has") (by k_mem) (by walk_at "len") (by walk_at "len") (by ktr_room) (by ktr_units) ?_); walk_at "in"))
structure ThS where
  es : List En
  ts : List En
  nt : Nat
  rest : List (Addr × Obj)
theorem there_does (w : World) {mean : ExcName → Option Value} {mg mb : Str → Option Value} {dp un : Nat} {gd : Option (List Code)} {cn : Str} {cs : Scope} {a : Addr} {ccd : Value} {cl : List (Str × Addr)} {outer : List Env} {A₀ : Around} {base h₀ : Heap} {L : Addr} {m : Str → Option Value} {s : Shared}
    {Q E : Value → Shared → Prop} {lc l : Addr} {ks es : List En} {nc n : Nat} {rest : List (Addr × Obj)} {b : Nat} {tb : Tok} (V : Nat → Prop)
    (B : Below A₀ base outer h₀) (F : Fr h₀ L s.heap m) (X : (hd.heap_39 w.params).In h₀) (N : News h₀ L s.heap ((l, listOf (vals es).toArray n) :: rest)) (T : Top hd.view_39 (looseW hd.view_39 []) mean mg mb h₀) (hk : cs.kind = .function)
    (hoff : ∀ p ∈ rest, p.1 ≠ l) (hlc : (lc, listOf (vals ks).toArray nc) ∈ rest) (hks : ∀ e ∈ ks, (e.t, e.obj) ∈ rest) (hlen : ks.length ≤ 1000) (hes : ∀ e ∈ es, (e.t, e.obj) ∈ rest) (hlen2 : es.length ≤ 1000) (hpos : 0 < es.length)
    (hin : ∀ e ∈ es, 0 ≤ e.y ∧ e.y < (ks.length : Int)) (hV : ∀ e ∈ es, V e.v) (hb : b ≤ 100) (hdp : dp + 60 < recursionLimit) (hun : un + 480 < cLine)
    (ret : ∀ D ts k es' rest' h' tk', ts.map En.d = toldD (ks.map En.d) b (es.map En.d) → es'.map En.d = fwdN (ks.map En.d) b (es.map En.d) → (∀ e ∈ es', 0 ≤ e.y ∧ e.y < (ks.length : Int)) → (∀ e ∈ ts, V e.v) → (∀ p ∈ rest, p ∈ rest') → (∀ e ∈ ts, (e.t, e.obj) ∈ rest') → (∀ e ∈ es', (e.t, e.obj) ∈ rest') → (∀ p ∈ rest', p.1 ≠ l) →
      (∀ p ∈ (l, listOf (vals es').toArray n) :: rest', p.1 ≠ D) → Fr h₀ L h' m → News h₀ L h' ((D, listOf (vals ts).toArray k) :: (l, listOf (vals es').toArray n) :: rest') → Q (.ref D) { s with heap := h', toks := tk' }) :
    wpAny (model PySem.Challenge.rw_mr0198_01.row.prog w) (ktrTop dp un gd cn cs L a ccd cl outer) (call (.ref 143) [.ref lc, .ref l, .int (b : Int) tb]) Q E s := by
  w_on
  revert X; k_fill; intro X
  refine wpAny_call ?_
  k_dflt ktr_enter
  walk_at "to for"
  refine wpAny_For ?_
  k_steps
  rename Fr _ _ _ _ => F1
  rename News _ _ _ _ => N1
  rename_i T1 _ hT1 _ r1 _ _ t1 u1 v1 hr1 I1 _ hI1
  obtain ⟨hlT, hT2⟩ := hT1
  have hrT : @LT.lt Nat _ T1 r1 := hr1 _ (.head _)
  have hIT : @LT.lt Nat _ T1 I1 := hI1 _ (.tail _ (.head _))
  refine for_range (σ := ThS) (n := b) (a := 0) (step := 1) (fun c => [(l, listOf (vals c.es).toArray n), (T1, listOf (vals c.ts).toArray c.nt)]) (fun c => c.rest) (fun _ => [("counters", .ref lc), ("heap", .ref l), ("told", .ref T1)])
    (fun i c => c.es.map En.d = fwdN (ks.map En.d) i (es.map En.d) ∧ c.ts.map En.d = toldD (ks.map En.d) i (es.map En.d) ∧ c.es.length = es.length ∧ (∀ e ∈ c.es, (e.t, e.obj) ∈ c.rest) ∧ (∀ e ∈ c.ts, (e.t, e.obj) ∈ c.rest) ∧ (∀ e ∈ c.es, 0 ≤ e.y ∧ e.y < (ks.length : Int)) ∧ (∀ e ∈ c.es, V e.v) ∧ (∀ e ∈ c.ts, V e.v) ∧
      (∀ p ∈ rest, p ∈ c.rest) ∧ (∀ p ∈ c.rest, p.1 ≠ l) ∧ (∀ p ∈ c.rest, p.1 ≠ T1)) ⟨es, [], 0, (r1, rngO 0 (b : Int) 1 t1 u1 v1) :: rest⟩ rfl rfl rfl F1 (news_sub N1 ?_) ?_ (by kst_all)
    ⟨rfl, rfl, rfl, has_tail hes, (by intro e he; cases he), hin, hV, (by intro e he; cases he), fun p hp => .tail _ hp, ?_, ?_⟩ ?_ ?_
  · show ∀ p ∈ _ :: _ :: _ :: _ :: rest, _
    walk_at "sub"
  · show ∀ p ∈ _ :: _ :: _ :: rest, _
    intro p hp
    refine Nat.ne_of_lt (hI1 p ?_)
    simp only [List.mem_cons] at hp ⊢
    rcases hp with h | h | h | h
    · exact .inr (.inr (.inl h))
    · exact .inr (.inl h)
    · exact .inl h
    · exact .inr (.inr (.inr h))
  · dsimp only
    walk_at "off"
  · dsimp only
    exact List.forall_mem_cons.mpr ⟨Nat.ne_of_gt hrT, allLt_ne hT2⟩
  · clear F1 N1
    rintro i ⟨es1, ts1, nt1, rest1⟩ u1 h1 tk1 t1 io hi ⟨hP1, hP2, hP3, hP4, hP5, hP6, hP7, hP8, hP9, hP10, hP11⟩ off1 F1 N1
    dsimp only at hP1 hP2 hP3 hP4 hP5 hP6 hP7 hP8 hP9 hP10 hP11 off1 F1 N1
    simp only [List.cons_append, List.nil_append] at N1
    have hlc1 := hP9 _ hlc
    have hks1 : ∀ e ∈ ks, (e.t, e.obj) ∈ rest1 := fun e he => hP9 _ (hks e he)
    have hlen1 : es1.length ≤ 1000 := by omega
    have hpos1 : 0 < es1.length := by omega
    have hts1 : ts1.length ≤ 1000 := by have := map_len hP2; omega
    k_steps
    rename_i e1 he1 _ _ _ _ _ e2 he2 _ _ t3 D1 _ l1 e0 _ _ he0 _ F3 N3
    obtain rfl : e0 = e1 := by
      have he1' : es1[0]? = some e1 := he1
      rw [he1'] at he0; exact (Option.some.inj he0).symm
    have hit : (⟨D1, e0.x + e2.y, e0.y, t3, e0.v, 0⟩ : En).d = (e0.x + (cat (ks.map En.d) e0.y).2, e0.y) := by rw [cat_of he2]; rfl
    have he0m := List.mem_of_getElem? he0
    refine ⟨⟨sup En.lt (es1.set 0 ⟨D1, e0.x + e2.y, e0.y, t3, e0.v, 0⟩) 0, ts1 ++ [e0], nt1 + 1, (D1, En.obj ⟨D1, e0.x + e2.y, e0.y, t3, e0.v, 0⟩) :: rest1⟩, _, _, _, rfl, F3, news_sub N3 ?_, ?_, by kst_all, ?_, ?_, ?_, ?_, ?_, ?_, ?_, ?_, ?_, ?_, ?_⟩
    · intro p hp
      simp only [List.cons_append, List.nil_append, List.mem_cons] at hp ⊢
      rcases hp with h | h | h | h | h
      · exact .inl h
      · exact .inr (.inr (.inl h))
      · exact .inr (.inr (.inr (.inl h)))
      · exact .inr (.inl h)
      · exact .inr (.inr (.inr (.inr h)))
    · intro p hp
      simp only [List.cons_append, List.nil_append, List.mem_cons] at hp
      rcases hp with rfl | rfl | rfl | h
      · exact off1 (l, listOf (vals es1).toArray n) (.head _)
      · exact off1 (T1, listOf (vals ts1).toArray nt1) (.tail _ (.head _))
      · exact Nat.ne_of_gt l1.2.2.1
      · exact off1 p (.tail _ (.tail _ h))
    · dsimp only; rw [fwd_of he0 hit, hP1]; rfl
    · dsimp only
      have : e0.d = hd0 (fwdN (ks.map En.d) i (es.map En.d)) := by rw [← hP1, hd0_of he0]
      exact map_snoc hP2 this
    · dsimp only; rw [sup_length, List.length_set]; exact hP3
    · dsimp only; exact forall_sup (P := fun e => (e.t, e.obj) ∈ _ :: rest1) (fun e he => .tail _ (hP4 e he)) (.head _)
    · dsimp only; exact forall_snoc (P := fun e => (e.t, e.obj) ∈ _ :: rest1) (fun e he => .tail _ (hP5 e he)) (.tail _ (hP4 e0 he0m))
    · dsimp only; exact forall_sup (P := fun e => 0 ≤ e.y ∧ e.y < (ks.length : Int)) hP6 (hP6 e0 he0m)
    · dsimp only; exact forall_sup (P := fun e => V e.v) hP7 (hP7 e0 he0m)
    · dsimp only; exact forall_snoc (P := fun e => V e.v) hP8 (hP7 e0 he0m)
    · dsimp only; exact fun p hp => .tail _ (hP9 p hp)
    · dsimp only; exact List.forall_mem_cons.mpr ⟨Nat.ne_of_gt l1.1, hP10⟩
    · dsimp only; exact List.forall_mem_cons.mpr ⟨Nat.ne_of_gt l1.2.1, hP11⟩
  · rintro ⟨es1, ts1, nt1, rest1⟩ u1 h1 tk1 ⟨hP1, hP2, hP3, hP4, hP5, hP6, hP7, hP8, hP9, hP10, hP11⟩ F1 N1
    dsimp only at hP1 hP2 hP3 hP4 hP5 hP6 hP7 hP8 hP9 hP10 hP11 F1 N1
    k_steps
    refine ret T1 ts1 nt1 es1 rest1 _ _ hP2 hP1 hP6 hP8 hP9 hP5 hP4 hP10 (List.forall_mem_cons.mpr ⟨Nat.ne_of_lt hlT, hP11⟩) (by assumption) (news_mv2 (by assumption))
def bwd (cs : List (Int × Int)) (hs : List (Int × Int)) : List (Int × Int) :=
  match hs[0]? with
  | some d => if d.1 = (cat cs d.2).1 then hpop pgtB hs else sup pgtB (hs.set 0 (d.1 - (cat cs d.2).2, d.2)) 0
  | none => hs
def bwdN (cs : List (Int × Int)) : Nat → List (Int × Int) → List (Int × Int)
  | 0, hs => hs
  | n + 1, hs => bwd cs (bwdN cs n hs)
def btoldD (cs : List (Int × Int)) : Nat → List (Int × Int) → List (Int × Int)
  | 0, _ => []
  | n + 1, hs => btoldD cs n hs ++ (match (bwdN cs n hs)[0]? with | some d => [d] | none => [])
theorem bwd_pop {cs : List (Int × Int)} {es : List En} {e : En} (h : es[0]? = some e) (hi : e.x = (cat cs e.y).1) : (hpop En.gt es).map En.d = bwd cs (es.map En.d) := by
  rw [hpop_map en_gt_d]
  unfold bwd
  rw [List.getElem?_map, h]
  exact (if_pos hi).symm
theorem bwd_rep {cs : List (Int × Int)} {es : List En} {e it : En} (h : es[0]? = some e) (hn : ¬ e.x = (cat cs e.y).1) (hi : it.d = (e.x - (cat cs e.y).2, e.y)) : (sup En.gt (es.set 0 it) 0).map En.d = bwd cs (es.map En.d) := by
  rw [sup_map en_gt_d, List.map_set]
  unfold bwd
  rw [List.getElem?_map, h, hi]
  exact (if_neg hn).symm
theorem bwd_nil {cs : List (Int × Int)} {es : List En} (h : ¬ 0 < es.length) : es.map En.d = bwd cs (es.map En.d) := by
  cases es with
  | nil => rfl
  | cons _ _ => simp at h
theorem btold_snoc {cs : List (Int × Int)} {n : Nat} {hs : List (Int × Int)} {es ts : List En} {e : En} (h1 : es.map En.d = bwdN cs n hs) (h2 : ts.map En.d = btoldD cs n hs) (he : es[0]? = some e) : (ts ++ [e]).map En.d = btoldD cs (n + 1) hs := by
  show _ = btoldD cs n hs ++ (match (bwdN cs n hs)[0]? with | some d => [d] | none => [])
  rw [← h1, List.getElem?_map, he, List.map_append, h2]; rfl
theorem btold_same {cs : List (Int × Int)} {n : Nat} {hs : List (Int × Int)} {es ts : List En} (h1 : es.map En.d = bwdN cs n hs) (h2 : ts.map En.d = btoldD cs n hs) (h : ¬ 0 < es.length) : ts.map En.d = btoldD cs (n + 1) hs := by
  show _ = btoldD cs n hs ++ (match (bwdN cs n hs)[0]? with | some d => [d] | none => [])
  rw [← h1, List.getElem?_map, h2]
  cases es with
  | nil => simp
  | cons _ _ => simp at h
theorem btold_len (cs : List (Int × Int)) (hs : List (Int × Int)) : ∀ n, (btoldD cs n hs).length ≤ n
  | 0 => Nat.le_refl _
  | n + 1 => by
    show (btoldD cs n hs ++ _).length ≤ n + 1
    rw [List.length_append]
    have := btold_len cs hs n
    split <;> simp <;> omega
theorem hpop_mem {α : Type} {lt : α → α → Bool} {es : List α} : ∀ e ∈ hpop lt es, e ∈ es := fun e he => by
  unfold hpop at he
  split at he
  · rename_i z hz
    have hzm : z ∈ es := List.mem_of_getLast? hz
    split at he
    · cases he
    · have h1 := (sup_perm lt _ 0).mem_iff.mp he
      rcases List.mem_or_eq_of_mem_set h1 with q | q
      · exact List.dropLast_subset _ q
      · exact q ▸ hzm
  · cases he
theorem hpop_len {α : Type} {lt : α → α → Bool} {es : List α} : (hpop lt es).length ≤ es.length := by
  unfold hpop
  split
  · split
    · exact Nat.zero_le _
    · rw [sup_length, List.length_set, List.length_dropLast]; omega
  · exact Nat.zero_le _
local macro_rules | `(tactic| walk_at "call ref") => `(tactic| (k_here; (with_reducible show wpAny _ _ (call (Value.ref 35) _) _ _ _); k_dflt (refine heappopM_does _ (by k_asm) (by k_asm) (by k_asm) (by walk_at "news") (by k_asm) (by walk_at "hk") (by walk_at "off") (by walk_at "has") (by assumption) (by assumption) (by ktr_room) (by ktr_units) ?_); walk_at "in"))
structure BkS where
  es : List En
  nh : Nat
  ts : List En
  nt : Nat
  rest : List (Addr × Obj)
theorem back_does (w : World) {mean : ExcName → Option Value} {mg mb : Str → Option Value} {dp un : Nat} {gd : Option (List Code)} {cn : Str} {cs : Scope} {a : Addr} {ccd : Value} {cl : List (Str × Addr)} {outer : List Env} {A₀ : Around} {base h₀ : Heap} {L : Addr} {m : Str → Option Value} {s : Shared}
    {Q E : Value → Shared → Prop} {lc l : Addr} {ks es : List En} {nc n : Nat} {rest : List (Addr × Obj)} {b : Nat} {tb : Tok}
    (B : Below A₀ base outer h₀) (F : Fr h₀ L s.heap m) (X : (hd.heap_39 w.params).In h₀) (N : News h₀ L s.heap ((l, listOf (vals es).toArray n) :: rest)) (T : Top hd.view_39 (looseW hd.view_39 []) mean mg mb h₀) (hk : cs.kind = .function)
    (hoff : ∀ p ∈ rest, p.1 ≠ l) (hlc : (lc, listOf (vals ks).toArray nc) ∈ rest) (hks : ∀ e ∈ ks, (e.t, e.obj) ∈ rest) (hlen : ks.length ≤ 1000) (hes : ∀ e ∈ es, (e.t, e.obj) ∈ rest) (hlen2 : es.length ≤ 1000)
    (hin : ∀ e ∈ es, 0 ≤ e.y ∧ e.y < (ks.length : Int)) (hb : b ≤ 100) (hdp : dp + 60 < recursionLimit) (hun : un + 480 < cLine)
    (ret : ∀ D ts k es' n' rest' h' tk', ts.map En.d = btoldD (ks.map En.d) b (es.map En.d) → es'.map En.d = bwdN (ks.map En.d) b (es.map En.d) → (∀ p ∈ rest, p ∈ rest') → (∀ e ∈ ts, (e.t, e.obj) ∈ rest') → (∀ e ∈ es', (e.t, e.obj) ∈ rest') → (∀ p ∈ rest', p.1 ≠ l) →
      (∀ p ∈ (l, listOf (vals es').toArray n') :: rest', p.1 ≠ D) → Fr h₀ L h' m → News h₀ L h' ((D, listOf (vals ts).toArray k) :: (l, listOf (vals es').toArray n') :: rest') → Q (.ref D) { s with heap := h', toks := tk' }) :
    wpAny (model PySem.Challenge.rw_mr0198_01.row.prog w) (ktrTop dp un gd cn cs L a ccd cl outer) (call (.ref 169) [.ref lc, .ref l, .int (b : Int) tb]) Q E s := by
  w_on
  revert X; k_fill; intro X
  refine wpAny_call ?_
  k_dflt ktr_enter
  walk_at "to for"
  refine wpAny_For ?_
  k_steps
  rename Fr _ _ _ _ => F1
  rename News _ _ _ _ => N1
  rename_i T1 _ hT1 _ r1 _ _ t1 u1 v1 hr1 I1 _ hI1
  obtain ⟨hlT, hT2⟩ := hT1
  have hrT : @LT.lt Nat _ T1 r1 := hr1 _ (.head _)
  have hIT : @LT.lt Nat _ T1 I1 := hI1 _ (.tail _ (.head _))
  refine for_range (σ := BkS) (n := b) (a := 0) (step := 1) (fun c => [(l, listOf (vals c.es).toArray c.nh), (T1, listOf (vals c.ts).toArray c.nt)]) (fun c => c.rest) (fun _ => [("counters", .ref lc), ("heap", .ref l), ("told", .ref T1)])
    (fun i c => c.es.map En.d = bwdN (ks.map En.d) i (es.map En.d) ∧ c.ts.map En.d = btoldD (ks.map En.d) i (es.map En.d) ∧ c.es.length ≤ es.length ∧ (∀ e ∈ c.es, (e.t, e.obj) ∈ c.rest) ∧ (∀ e ∈ c.ts, (e.t, e.obj) ∈ c.rest) ∧ (∀ e ∈ c.es, 0 ≤ e.y ∧ e.y < (ks.length : Int)) ∧
      (∀ p ∈ rest, p ∈ c.rest) ∧ (∀ p ∈ c.rest, p.1 ≠ l) ∧ (∀ p ∈ c.rest, p.1 ≠ T1)) ⟨es, n, [], 0, (r1, rngO 0 (b : Int) 1 t1 u1 v1) :: rest⟩ rfl rfl rfl F1 (news_sub N1 ?_) ?_ (by kst_all)
    ⟨rfl, rfl, Nat.le_refl _, has_tail hes, (by intro e he; cases he), hin, fun p hp => .tail _ hp, ?_, ?_⟩ ?_ ?_
  · show ∀ p ∈ _ :: _ :: _ :: _ :: rest, _
    walk_at "sub"
  · show ∀ p ∈ _ :: _ :: _ :: rest, _
    intro p hp
    refine Nat.ne_of_lt (hI1 p ?_)
    simp only [List.mem_cons] at hp ⊢
    rcases hp with h | h | h | h
    · exact .inr (.inr (.inl h))
    · exact .inr (.inl h)
    · exact .inl h
    · exact .inr (.inr (.inr h))
  · dsimp only
    walk_at "off"
  · dsimp only
    exact List.forall_mem_cons.mpr ⟨Nat.ne_of_gt hrT, allLt_ne hT2⟩
  · clear F1 N1
    rintro i ⟨es1, nh1, ts1, nt1, rest1⟩ u1 h1 tk1 t1 io hi ⟨hP1, hP2, hP3, hP4, hP5, hP6, hP9, hP10, hP11⟩ off1 F1 N1
    dsimp only at hP1 hP2 hP3 hP4 hP5 hP6 hP9 hP10 hP11 off1 F1 N1
    simp only [List.cons_append, List.nil_append] at N1
    have hlc1 := hP9 _ hlc
    have hks1 : ∀ e ∈ ks, (e.t, e.obj) ∈ rest1 := fun e he => hP9 _ (hks e he)
    have hlen1 : es1.length ≤ 1000 := by omega
    have hts1 : ts1.length ≤ 1000 := by
      have h1 := congrArg List.length hP2
      have h2 := btold_len (ks.map En.d) (es.map En.d) i
      rw [List.length_map] at h1
      omega
    k_steps
    · rename_i e1 he1 _ _ _ _ _ e2 he2 _ _ hq e0 _ _ n1 he0 _ F3 N3
      obtain rfl : e0 = e1 := by
        have he1' : es1[0]? = some e1 := he1
        rw [he1'] at he0; exact (Option.some.inj he0).symm
      have he0m := List.mem_of_getElem? he0
      have hq2 : e0.x = (cat (ks.map En.d) e0.y).1 := by rw [cat_of he2]; exact hq
      refine ⟨⟨hpop En.gt es1, n1, ts1 ++ [e0], nt1 + 1, rest1⟩, _, _, _, rfl, F3, N3, ?_, by kst_all, ?_, ?_, ?_, ?_, ?_, ?_, hP9, hP10, hP11⟩
      · intro p hp
        simp only [List.cons_append, List.nil_append, List.mem_cons] at hp
        rcases hp with rfl | rfl | h
        · exact off1 (l, listOf (vals es1).toArray nh1) (.head _)
        · exact off1 (T1, listOf (vals ts1).toArray nt1) (.tail _ (.head _))
        · exact off1 p (.tail _ (.tail _ h))
      · dsimp only; rw [bwd_pop he0 hq2, hP1]; rfl
      · dsimp only; exact btold_snoc hP1 hP2 he0
      · dsimp only; exact Nat.le_trans hpop_len hP3
      · dsimp only; exact fun e he => hP4 e (hpop_mem e he)
      · dsimp only; exact forall_snoc (P := fun e => (e.t, e.obj) ∈ rest1) hP5 (hP4 e0 he0m)
      · dsimp only; exact fun e he => hP6 e (hpop_mem e he)
    · rename_i e1 he1 _ _ _ _ _ e2 he2 _ _ hq e3 he3 _ _ t3 D1 _ l1 e0 _ _ he0 _ F3 N3
      obtain rfl : e0 = e1 := by
        have he1' : es1[0]? = some e1 := he1
        rw [he1'] at he0; exact (Option.some.inj he0).symm
      obtain rfl : e3 = e2 := by rw [he2] at he3; exact (Option.some.inj he3).symm
      have he0m := List.mem_of_getElem? he0
      have hq2 : ¬ e0.x = (cat (ks.map En.d) e0.y).1 := by rw [cat_of he2]; exact hq
      have hit : (⟨D1, e0.x - e3.y, e0.y, t3, e0.v, 0⟩ : En).d = (e0.x - (cat (ks.map En.d) e0.y).2, e0.y) := by rw [cat_of he2]; rfl
      refine ⟨⟨sup En.gt (es1.set 0 ⟨D1, e0.x - e3.y, e0.y, t3, e0.v, 0⟩) 0, nh1, ts1 ++ [e0], nt1 + 1, (D1, En.obj ⟨D1, e0.x - e3.y, e0.y, t3, e0.v, 0⟩) :: rest1⟩, _, _, _, rfl, F3, news_sub N3 ?_, ?_, by kst_all, ?_, ?_, ?_, ?_, ?_, ?_, ?_, ?_, ?_⟩
      · intro p hp
        simp only [List.cons_append, List.nil_append, List.mem_cons] at hp ⊢
        rcases hp with h | h | h | h | h
        · exact .inl h
        · exact .inr (.inr (.inl h))
        · exact .inr (.inr (.inr (.inl h)))
        · exact .inr (.inl h)
        · exact .inr (.inr (.inr (.inr h)))
      · intro p hp
        simp only [List.cons_append, List.nil_append, List.mem_cons] at hp
        rcases hp with rfl | rfl | rfl | h
        · exact off1 (l, listOf (vals es1).toArray nh1) (.head _)
        · exact off1 (T1, listOf (vals ts1).toArray nt1) (.tail _ (.head _))
        · exact Nat.ne_of_gt l1.2.2.1
        · exact off1 p (.tail _ (.tail _ h))
      · dsimp only; rw [bwd_rep he0 hq2 hit, hP1]; rfl
      · dsimp only; exact btold_snoc hP1 hP2 he0
      · dsimp only; rw [sup_length, List.length_set]; exact hP3
      · dsimp only; exact forall_sup (P := fun e => (e.t, e.obj) ∈ _ :: rest1) (fun e he => .tail _ (hP4 e he)) (.head _)
      · dsimp only; exact forall_snoc (P := fun e => (e.t, e.obj) ∈ _ :: rest1) (fun e he => .tail _ (hP5 e he)) (.tail _ (hP4 e0 he0m))
      · dsimp only; exact forall_sup (P := fun e => 0 ≤ e.y ∧ e.y < (ks.length : Int)) hP6 (hP6 e0 he0m)
      · dsimp only; exact fun p hp => .tail _ (hP9 p hp)
      · dsimp only; exact List.forall_mem_cons.mpr ⟨Nat.ne_of_gt l1.1, hP10⟩
      · dsimp only; exact List.forall_mem_cons.mpr ⟨Nat.ne_of_gt l1.2.1, hP11⟩
    · refine ⟨⟨es1, nh1, ts1, nt1, rest1⟩, _, _, _, rfl, F1, N1, off1, by kst_all, ?_, btold_same hP1 hP2 (by assumption), hP3, hP4, hP5, hP6, hP9, hP10, hP11⟩
      dsimp only
      have h9 : es1.map En.d = bwd (ks.map En.d) (es1.map En.d) := bwd_nil (by assumption)
      rw [h9, hP1]; rfl
  · rintro ⟨es1, nh1, ts1, nt1, rest1⟩ u1 h1 tk1 ⟨hP1, hP2, hP3, hP4, hP5, hP6, hP9, hP10, hP11⟩ F1 N1
    dsimp only at hP1 hP2 hP3 hP4 hP5 hP6 hP9 hP10 hP11 F1 N1
    k_steps
    exact ret T1 ts1 nt1 es1 nh1 rest1 _ _ hP2 hP1 hP9 hP5 hP4 hP10 (List.forall_mem_cons.mpr ⟨Nat.ne_of_lt hlT, hP11⟩) (by assumption) (news_mv2 (by assumption))
section
variable {prog : Program} {w : World} {A : Around} {E : Value → Shared → Prop} {s : Shared} {h₀ : Heap} {L : Addr} {news : List (Addr × Obj)} {e f : En} {Q : Value → Shared → Prop}
theorem eq_En (N : News h₀ L s.heap news) (he : (e.t, e.obj) ∈ news) (hf : (f.t, f.obj) ∈ news) (hu : A.units < cLine) (h : Q (.bool (decide (e.d = f.d))) s) :
    wpAny (model prog w) A (compareOp .Eq (.ref e.t) (.ref f.t)) Q E s := by
  refine PySem.SeqAt.eq_tupleAt (items := #[.int e.x e.u, .int e.y e.v]) (items2 := #[.int f.x f.u, .int f.y f.v]) (e := fun j => if j = 0 then e.x == f.x else e.y == f.y) ⟨_, (N _ he).1, rfl, e.n, rfl⟩ ⟨_, (N _ hf).1, rfl, f.n, rfl⟩ hu ?_ ?_
  · intro j h1 h2
    match j, h1, h2 with
    | 0, _, _ => exact (MeetsSeq.EqGives.int e.x f.x e.u f.u).at _ _
    | 1, _, _ => exact (MeetsSeq.EqGives.int e.y f.y e.v f.v).at _ _
    | j + 2, h1, _ => exact absurd h1 (by simp)
  · have e1 : ((List.range (min (#[Value.int e.x e.u, Value.int e.y e.v] : Array Value).size (#[Value.int f.x f.u, Value.int f.y f.v] : Array Value).size)).all (fun j => if j = 0 then e.x == f.x else e.y == f.y) && (#[Value.int e.x e.u, Value.int e.y e.v] : Array Value).size == (#[Value.int f.x f.u, Value.int f.y f.v] : Array Value).size) = decide (e.d = f.d) := by
      show ((List.range 2).all (fun j => if j = 0 then e.x == f.x else e.y == f.y) && true) = decide ((e.x, e.y) = (f.x, f.y))
      have e2 : List.range 2 = [0, 1] := rfl
      rw [e2]
      by_cases h1 : e.x = f.x <;> by_cases h2 : e.y = f.y <;> simp [h1, h2]
    rw [e1]; exact h
end
def undD (hs : List (Int × Int)) : List (Int × Int) := sup pltB ((sup pltB (hs.set 0 ((hd0 hs).1 - 1, -1)) 0).set 0 (hd0 hs)) 0
def ovrD (hs : List (Int × Int)) : List (Int × Int) := sup pgtB ((sup pgtB (hs.set 0 ((hd0 hs).1 + 1, -1)) 0).set 0 (hd0 hs)) 0
theorem sup_has {lt : En → En → Bool} {es : List En} {k : Nat} {rest : List (Addr × Obj)} (h : ∀ e ∈ es, (e.t, e.obj) ∈ rest) : ∀ e ∈ sup lt es k, (e.t, e.obj) ∈ rest := fun e he => h e ((sup_perm lt es k).mem_iff.mp he)
theorem und_head {es : List En} {e0 it e2 : En} (he2 : (sup En.lt (es.set 0 it) 0)[0]? = some e2) (he0 : es[0]? = some e0) (hit : it.d = (e0.x - 1, -1)) (hres : hd0 (sup pltB ((es.map En.d).set 0 ((hd0 (es.map En.d)).1 - 1, -1)) 0) = ((hd0 (es.map En.d)).1 - 1, -1)) : decide (e2.d = it.d) = true := by
  have h1 := hd0_of he2
  rw [sup_map en_lt_d, List.map_set, hit] at h1
  rw [hd0_of he0] at hres
  rw [hit]
  exact decide_eq_true (h1.symm.trans hres)
theorem und_map {es : List En} {e0 it : En} (he0 : es[0]? = some e0) (hit : it.d = (e0.x - 1, -1)) : (sup En.lt ((sup En.lt (es.set 0 it) 0).set 0 e0) 0).map En.d = undD (es.map En.d) := by
  rw [sup_map en_lt_d, List.map_set, sup_map en_lt_d, List.map_set, hit]
  unfold undD
  rw [hd0_of he0]; rfl
theorem ovr_head {es : List En} {e0 it e2 : En} (he2 : (sup En.gt (es.set 0 it) 0)[0]? = some e2) (he0 : es[0]? = some e0) (hit : it.d = (e0.x + 1, -1)) (hres : hd0 (sup pgtB ((es.map En.d).set 0 ((hd0 (es.map En.d)).1 + 1, -1)) 0) = ((hd0 (es.map En.d)).1 + 1, -1)) : decide (e2.d = it.d) = true := by
  have h1 := hd0_of he2
  rw [sup_map en_gt_d, List.map_set, hit] at h1
  rw [hd0_of he0] at hres
  rw [hit]
  exact decide_eq_true (h1.symm.trans hres)
theorem ovr_map {es : List En} {e0 it : En} (he0 : es[0]? = some e0) (hit : it.d = (e0.x + 1, -1)) : (sup En.gt ((sup En.gt (es.set 0 it) 0).set 0 e0) 0).map En.d = ovrD (es.map En.d) := by
  rw [sup_map en_gt_d, List.map_set, sup_map en_gt_d, List.map_set, hit]
  unfold ovrD
  rw [hd0_of he0]; rfl
local macro_rules | `(tactic| walk_at "compareOp Eq ref") => `(tactic| (k_here; (with_reducible show wpAny _ _ (compareOp CmpOp.Eq (Value.ref (En.t _)) (Value.ref (En.t _))) _ _ _); k_dflt (refine eq_En (by k_asm) (by k_mem) (by k_mem) (by ktr_units) ?_)))
local macro_rules | `(tactic| walk_at "has") => `(tactic| ((with_reducible show ∀ e ∈ sup _ _ _, _); refine sup_has ?_; walk_at "has"))
theorem under_does (w : World) {mean : ExcName → Option Value} {mg mb : Str → Option Value} {dp un : Nat} {gd : Option (List Code)} {cn : Str} {cs : Scope} {a : Addr} {ccd : Value} {cl : List (Str × Addr)} {outer : List Env} {A₀ : Around} {base h₀ : Heap} {L : Addr} {m : Str → Option Value} {s : Shared}
    {Q E : Value → Shared → Prop} {l : Addr} {es : List En} {n : Nat} {rest : List (Addr × Obj)}
    (B : Below A₀ base outer h₀) (F : Fr h₀ L s.heap m) (X : (hd.heap_39 w.params).In h₀) (N : News h₀ L s.heap ((l, listOf (vals es).toArray n) :: rest)) (T : Top hd.view_39 (looseW hd.view_39 []) mean mg mb h₀) (hk : cs.kind = .function)
    (hoff : ∀ p ∈ rest, p.1 ≠ l) (hes : ∀ e ∈ es, (e.t, e.obj) ∈ rest) (hlen2 : es.length ≤ 1000) (hpos : 0 < es.length)
    (hres : hd0 (sup pltB ((es.map En.d).set 0 ((hd0 (es.map En.d)).1 - 1, -1)) 0) = ((hd0 (es.map En.d)).1 - 1, -1)) (hdp : dp + 60 < recursionLimit) (hun : un + 480 < cLine)
    (ret : ∀ es' rest' h' tk', es'.map En.d = undD (es.map En.d) → (∀ p ∈ rest, p ∈ rest') → (∀ e ∈ es', (e.t, e.obj) ∈ rest') → (∀ p ∈ rest', p.1 ≠ l) →
      Fr h₀ L h' m → News h₀ L h' ((l, listOf (vals es').toArray n) :: rest') → Q (.bool true) { s with heap := h', toks := tk' }) :
    wpAny (model PySem.Challenge.rw_mr0198_01.row.prog w) (ktrTop dp un gd cn cs L a ccd cl outer) (call (.ref 150) [.ref l]) Q E s := by
  w_on
  revert X; k_fill; intro X
  refine wpAny_call ?_
  k_dflt ktr_enter
  k_steps
  · rename_i e1 he1 _ _ _ t3 D1 _ l1 _ e0 _ _ he0 _ e2 _ _ he2 F3 N3
    obtain rfl : e0 = e1 := by
      have he1' : es[0]? = some e1 := he1
      rw [he1'] at he0; exact (Option.some.inj he0).symm
    have hm2 := sup_has (lt := En.lt) (k := 0) (set_has (k := 0) (has_tail hes) (List.Mem.head _)) e2 (List.mem_of_getElem? he2)
    refine eq_En (f := En.mk D1 (e0.x - 1) (-1) t3 _ 0) N3 (.tail _ hm2) (.tail _ (.head _)) (by ktr_units) ?_
    rw [ (und_head he2 he0 rfl hres)]
    k_steps
    refine ret _ _ _ _ (und_map he0 rfl) (fun p hp => .tail _ hp) ?_ ?_ (by assumption) (by assumption)
    · exact sup_has (set_has (sup_has (set_has (has_tail hes) (.head _))) (.tail _ (hes e0 (List.mem_of_getElem? he0))))
    · exact List.forall_mem_cons.mpr ⟨Nat.ne_of_gt l1.1, hoff⟩
  · rename_i e1 he1 _ _ _ t3 D1 _ l1 _ e0 _ _ he0 _ _ hf _ _ _ _
    exfalso
    obtain rfl : e0 = e1 := by
      have he1' : es[0]? = some e1 := he1
      rw [he1'] at he0; exact (Option.some.inj he0).symm
    simp at hf
theorem over_does (w : World) {mean : ExcName → Option Value} {mg mb : Str → Option Value} {dp un : Nat} {gd : Option (List Code)} {cn : Str} {cs : Scope} {a : Addr} {ccd : Value} {cl : List (Str × Addr)} {outer : List Env} {A₀ : Around} {base h₀ : Heap} {L : Addr} {m : Str → Option Value} {s : Shared}
    {Q E : Value → Shared → Prop} {l : Addr} {es : List En} {n : Nat} {rest : List (Addr × Obj)}
    (B : Below A₀ base outer h₀) (F : Fr h₀ L s.heap m) (X : (hd.heap_39 w.params).In h₀) (N : News h₀ L s.heap ((l, listOf (vals es).toArray n) :: rest)) (T : Top hd.view_39 (looseW hd.view_39 []) mean mg mb h₀) (hk : cs.kind = .function)
    (hoff : ∀ p ∈ rest, p.1 ≠ l) (hes : ∀ e ∈ es, (e.t, e.obj) ∈ rest) (hlen2 : es.length ≤ 1000) (hpos : 0 < es.length)
    (hres : hd0 (sup pgtB ((es.map En.d).set 0 ((hd0 (es.map En.d)).1 + 1, -1)) 0) = ((hd0 (es.map En.d)).1 + 1, -1)) (hdp : dp + 60 < recursionLimit) (hun : un + 480 < cLine)
    (ret : ∀ es' rest' h' tk', es'.map En.d = ovrD (es.map En.d) → (∀ p ∈ rest, p ∈ rest') → (∀ e ∈ es', (e.t, e.obj) ∈ rest') → (∀ p ∈ rest', p.1 ≠ l) →
      Fr h₀ L h' m → News h₀ L h' ((l, listOf (vals es').toArray n) :: rest') → Q (.bool true) { s with heap := h', toks := tk' }) :
    wpAny (model PySem.Challenge.rw_mr0198_01.row.prog w) (ktrTop dp un gd cn cs L a ccd cl outer) (call (.ref 157) [.ref l]) Q E s := by
  w_on
  revert X; k_fill; intro X
  refine wpAny_call ?_
  k_dflt ktr_enter
  k_steps
  · rename_i e1 he1 _ _ _ t3 D1 _ l1 _ e0 _ _ he0 _ e2 _ _ he2 F3 N3
    obtain rfl : e0 = e1 := by
      have he1' : es[0]? = some e1 := he1
      rw [he1'] at he0; exact (Option.some.inj he0).symm
    have hm2 := sup_has (lt := En.gt) (k := 0) (set_has (k := 0) (has_tail hes) (List.Mem.head _)) e2 (List.mem_of_getElem? he2)
    refine eq_En (f := En.mk D1 (e0.x + 1) (-1) t3 _ 0) N3 (.tail _ hm2) (.tail _ (.head _)) (by ktr_units) ?_
    rw [ (ovr_head he2 he0 rfl hres)]
    k_steps
    refine ret _ _ _ _ (ovr_map he0 rfl) (fun p hp => .tail _ hp) ?_ ?_ (by assumption) (by assumption)
    · exact sup_has (set_has (sup_has (set_has (has_tail hes) (.head _))) (.tail _ (hes e0 (List.mem_of_getElem? he0))))
    · exact List.forall_mem_cons.mpr ⟨Nat.ne_of_gt l1.1, hoff⟩
  · rename_i e1 he1 _ _ _ t3 D1 _ l1 _ e0 _ _ he0 _ _ hf _ _ _ _
    exfalso
    obtain rfl : e0 = e1 := by
      have he1' : es[0]? = some e1 := he1
      rw [he1'] at he0; exact (Option.some.inj he0).symm
    simp at hf
def lastD (d : Int × Int) (j : Int) : Int := if j < d.2 then d.1 else d.1 - 1
def aheadOf (c : Int × Int) (last : Int) : Int := if c.1 ≤ last then (last - c.1) / c.2 + 1 else 0
def ahd (cs : List (Int × Int)) (d : Int × Int) : Nat → Int
  | 0 => 0
  | j + 1 => ahd cs d j + aheadOf (cat cs (j : Int)) (lastD d (j : Int))
theorem ahd_yes {cs : List (Int × Int)} {d c : Int × Int} {j : Nat} {a last : Int} (h : a = ahd cs d j) (hc : cat cs (j : Int) = c) (hl : last = lastD d (j : Int)) (h1 : c.1 ≤ last) : a + (last - c.1) / c.2 + 1 = ahd cs d (j + 1) := by
  show _ = ahd cs d j + aheadOf (cat cs (j : Int)) (lastD d (j : Int))
  rw [hc, ← hl, ← h, aheadOf, if_pos h1]; omega
theorem ahd_no {cs : List (Int × Int)} {d c : Int × Int} {j : Nat} {a last : Int} (h : a = ahd cs d j) (hc : cat cs (j : Int) = c) (hl : last = lastD d (j : Int)) (h1 : ¬ c.1 ≤ last) : a = ahd cs d (j + 1) := by
  show _ = ahd cs d j + aheadOf (cat cs (j : Int)) (lastD d (j : Int))
  rw [hc, ← hl, ← h, aheadOf, if_neg h1]; omega
theorem last_lt {d : Int × Int} {j : Int} (h : j < d.2) : d.1 = lastD d j := (if_pos h).symm
theorem last_ge {d : Int × Int} {j : Int} (h : ¬ j < d.2) : d.1 - 1 = lastD d j := (if_neg h).symm
theorem law_at {ks ts : List En} {i : Nat} {e c : En} (hlaw : ∀ (k : Nat) (e : En), ts[k]? = some e → (cat (ks.map En.d) e.y).1 ≤ e.x ∧ (e.x - (cat (ks.map En.d) e.y).1) % (cat (ks.map En.d) e.y).2 = 0 ∧ ahd (ks.map En.d) e.d ks.length = (k : Int)) (h1 : ts[(i : Int).toNat]? = some e) (h2 : ks[e.y.toNat]? = some c) :
    c.x ≤ e.x ∧ (e.x - c.x) % c.y = 0 ∧ ahd (ks.map En.d) (e.x, e.y) ks.length = (i : Int) := by
  have h := hlaw i e h1
  rw [cat_of h2] at h
  exact h
theorem ahead_does (w : World) {mean : ExcName → Option Value} {mg mb : Str → Option Value} {dp un : Nat} {gd : Option (List Code)} {cn : Str} {cs : Scope} {a : Addr} {ccd : Value} {cl : List (Str × Addr)} {outer : List Env} {A₀ : Around} {base h₀ : Heap} {L : Addr} {m : Str → Option Value} {s : Shared}
    {Q E : Value → Shared → Prop} {lc : Addr} {ks : List En} {nc : Nat} {news : List (Addr × Obj)} {x y : Int} {tx ty : Tok}
    (B : Below A₀ base outer h₀) (F : Fr h₀ L s.heap m) (X : (hd.heap_39 w.params).In h₀) (N : News h₀ L s.heap news) (T : Top hd.view_39 (looseW hd.view_39 []) mean mg mb h₀) (hk : cs.kind = .function)
    (hlc : (lc, listOf (vals ks).toArray nc) ∈ news) (hks : ∀ e ∈ ks, (e.t, e.obj) ∈ news) (hlen : ks.length ≤ 1000) (hst : ∀ e ∈ ks, 0 < e.y ∧ e.y ≤ 10) (hdp : dp + 30 < recursionLimit) (hun : un + 240 < cLine)
    (ret : ∀ t h' tk', Fr h₀ L h' m → News h₀ L h' news → Q (.int (ahd (ks.map En.d) (x, y) ks.length) t) { s with heap := h', toks := tk' }) :
    wpAny (model PySem.Challenge.rw_mr0198_01.row.prog w) (ktrTop dp un gd cn cs L a ccd cl outer) (call (.ref 176) [.ref lc, .int x tx, .int y ty]) Q E s := by
  w_on
  revert X; k_fill; intro X
  refine wpAny_call ?_
  k_dflt ktr_enter
  walk_at "to for"
  refine wpAny_For ?_
  k_steps
  rename Fr _ _ _ _ => F1
  rename News _ _ _ _ => N1
  rename_i r1 _ _ t1 u1 v1 hr1 I1 _ hI1
  refine for_range (σ := Int × Tok) (n := ks.length) (a := 0) (step := 1) (fun _ => []) (fun _ => (r1, rngO 0 (ks.length : Int) 1 t1 u1 v1) :: news) (fun c => [("counters", .ref lc), ("beat", .int x tx), ("place", .int y ty), ("ahead", .int c.1 c.2)])
    (fun i c => c.1 = ahd (ks.map En.d) (x, y) i) (0, _) rfl rfl rfl F1 N1 (fun p hp => Nat.ne_of_lt (hI1 p hp)) (by kst_all) rfl ?_ ?_
  · clear F1 N1
    rintro i ⟨c, ct⟩ u1 h1 tk1 t1 io hi hP off1 F1 N1
    dsimp only at hP off1 F1 N1
    simp only [List.nil_append] at N1 off1
    have ei : (0 : Int) + (i : Int) * 1 = i := by omega
    rw [ei] at F1
    k_steps
    · exact ⟨(_, _), _, _, _, rfl, by assumption, by assumption, off1, by kst_all, ahd_yes hP (cat_of (by assumption)) (last_lt (d := (x, y)) (by assumption)) (by assumption)⟩
    · exact ⟨(_, _), _, _, _, rfl, by assumption, by assumption, off1, by kst_all, ahd_no hP (cat_of (by assumption)) (last_lt (d := (x, y)) (by assumption)) (by assumption)⟩
    · exact ⟨(_, _), _, _, _, rfl, by assumption, by assumption, off1, by kst_all, ahd_yes hP (cat_of (by assumption)) (last_ge (d := (x, y)) (by assumption)) (by assumption)⟩
    · exact ⟨(_, _), _, _, _, rfl, by assumption, by assumption, off1, by kst_all, ahd_no hP (cat_of (by assumption)) (last_ge (d := (x, y)) (by assumption)) (by assumption)⟩
  · rintro ⟨c, ct⟩ u1 h1 tk1 hP F1 N1
    dsimp only at hP F1 N1
    k_steps
    rw [hP]
    exact ret _ _ _ (by assumption) (news_sub (a := _ :: news) (by assumption) (fun p hp => .tail _ hp))
local macro_rules | `(tactic| walk_at "call ref") => `(tactic| (k_here; (with_reducible show wpAny _ _ (call (Value.ref 176) _) _ _ _); k_dflt (refine ahead_does _ (by k_asm) (by k_asm) (by k_asm) (by k_asm) (by k_asm) (by walk_at "hk") (by k_mem) (by walk_at "has") (by assumption) (by assumption) (by ktr_room) (by ktr_units) ?_); walk_at "in"))
theorem eachInTurn_does (w : World) {mean : ExcName → Option Value} {mg mb : Str → Option Value} {dp un : Nat} {gd : Option (List Code)} {cn : Str} {cs : Scope} {a : Addr} {ccd : Value} {cl : List (Str × Addr)} {outer : List Env} {A₀ : Around} {base h₀ : Heap} {L : Addr} {m : Str → Option Value} {s : Shared}
    {Q E : Value → Shared → Prop} {lc lt : Addr} {ks ts : List En} {nc nt : Nat} {news : List (Addr × Obj)}
    (B : Below A₀ base outer h₀) (F : Fr h₀ L s.heap m) (X : (hd.heap_39 w.params).In h₀) (N : News h₀ L s.heap news) (T : Top hd.view_39 (looseW hd.view_39 []) mean mg mb h₀) (hk : cs.kind = .function)
    (hlc : (lc, listOf (vals ks).toArray nc) ∈ news) (hks : ∀ e ∈ ks, (e.t, e.obj) ∈ news) (hlen : ks.length ≤ 1000) (hst : ∀ e ∈ ks, 0 < e.y ∧ e.y ≤ 10)
    (hlt : (lt, listOf (vals ts).toArray nt) ∈ news) (hts : ∀ e ∈ ts, (e.t, e.obj) ∈ news) (hlen2 : ts.length ≤ 1000)
    (hin : ∀ e ∈ ts, 0 ≤ e.y ∧ e.y < (ks.length : Int))
    (hlaw : ∀ (k : Nat) (e : En), ts[k]? = some e → (cat (ks.map En.d) e.y).1 ≤ e.x ∧ (e.x - (cat (ks.map En.d) e.y).1) % (cat (ks.map En.d) e.y).2 = 0 ∧ ahd (ks.map En.d) e.d ks.length = (k : Int)) (hdp : dp + 60 < recursionLimit) (hun : un + 480 < cLine)
    (ret : ∀ h' tk', Fr h₀ L h' m → News h₀ L h' news → Q (.bool true) { s with heap := h', toks := tk' }) :
    wpAny (model PySem.Challenge.rw_mr0198_01.row.prog w) (ktrTop dp un gd cn cs L a ccd cl outer) (call (.ref 183) [.ref lc, .ref lt]) Q E s := by
  w_on
  revert X; k_fill; intro X
  refine wpAny_call ?_
  k_dflt ktr_enter
  walk_at "to for"
  refine wpAny_For ?_
  k_steps
  rename Fr _ _ _ _ => F1
  rename News _ _ _ _ => N1
  rename_i r1 _ _ t1 u1 v1 hr1 I1 _ hI1
  refine for_range (σ := Unit) (n := ts.length) (a := 0) (step := 1) (fun _ => []) (fun _ => (r1, rngO 0 (ts.length : Int) 1 t1 u1 v1) :: news) (fun _ => [("counters", .ref lc), ("told", .ref lt)])
    (fun _ _ => True) () rfl rfl rfl F1 N1 (fun p hp => Nat.ne_of_lt (hI1 p hp)) (by kst_all) trivial ?_ ?_
  · clear F1 N1
    rintro i ⟨⟩ u1 h1 tk1 t1 io hi hP off1 F1 N1
    try dsimp only at off1 F1 N1
    simp only [List.nil_append] at N1 off1
    have ei : (0 : Int) + (i : Int) * 1 = i := by omega
    rw [ei] at F1
    k_steps
    · have h9 := (law_at hlaw (by assumption) (by assumption)).1
      omega
    · exact absurd (law_at hlaw (by assumption) (by assumption)).2.1 (by assumption)
    · exact absurd (law_at hlaw (by assumption) (by assumption)).2.2 (by assumption)
    · exact ⟨(), _, _, _, rfl, by assumption, by assumption, off1, by kst_all, trivial⟩
  · rintro ⟨⟩ u1 h1 tk1 hP F1 N1
    try dsimp only at F1 N1
    k_steps
    exact ret _ _ (by assumption) (news_sub (a := _ :: news) (by assumption) (fun p hp => .tail _ hp))
def ctrD (x : Int) : Int × Int := (x / 7, x % 7 + 1)
def ctrsD (ns : List Int) : List (Int × Int) := ([9, 25, 1] ++ ns.take 5).map ctrD
theorem ints_at {vs : List Value} {ns : List Int} {i : Nat} {v : Value} (hi : IntsAre vs ns) (h : vs.toArray[i]? = some v) : ∃ n t, ns[i]? = some n ∧ v = .int n t := by
  rw [List.getElem?_toArray] at h
  have h1 := (List.getElem?_eq_some_iff.mp h).1
  rw [hi.length] at h1
  obtain ⟨t, ht⟩ := hi.get i _ (List.getElem?_eq_getElem h1)
  rw [h] at ht
  exact ⟨_, t, List.getElem?_eq_getElem h1, Option.some.inj ht⟩
theorem counters_does (w : World) {mean : ExcName → Option Value} {mg mb : Str → Option Value} {dp un : Nat} {gd : Option (List Code)} {cn : Str} {cs : Scope} {a : Addr} {ccd : Value} {cl : List (Str × Addr)} {outer : List Env} {A₀ : Around} {base h₀ : Heap} {L : Addr} {m : Str → Option Value} {s : Shared}
    {Q E : Value → Shared → Prop} {sl : Addr} {vs : List Value} {ns : List Int} {news : List (Addr × Obj)}
    (B : Below A₀ base outer h₀) (F : Fr h₀ L s.heap m) (X : (hd.heap_39 w.params).In h₀) (N : News h₀ L s.heap news) (T : Top hd.view_39 (looseW hd.view_39 []) mean mg mb h₀) (hk : cs.kind = .function)
    (hsl : h₀.IsList sl vs.toArray) (hns : IntsAre vs ns) (hlen : ns.length ≤ 1000) (hdp : dp + 60 < recursionLimit) (hun : un + 480 < cLine)
    (ret : ∀ D es k rest h' tk', es.map En.d = ctrsD ns → (∀ p ∈ news, p ∈ rest) → (∀ e ∈ es, (e.t, e.obj) ∈ rest) → (∀ p ∈ rest, p.1 ≠ D) → Fr h₀ L h' m → News h₀ L h' ((D, listOf (vals es).toArray k) :: rest) → Q (.ref D) { s with heap := h', toks := tk' }) :
    wpAny (model PySem.Challenge.rw_mr0198_01.row.prog w) (ktrTop dp un gd cn cs L a ccd cl outer) (call (.ref 131) [.ref sl]) Q E s := by
  w_on
  revert X; k_fill; intro X
  refine wpAny_call ?_
  k_dflt ktr_enter
  have hsl1 := stays_list (Fr.keep (by assumption)) hsl
  walk_at "to comp"
  k_dflt (refine PyProof.Rows.LCg.ListComp_U (F₀ := by k_asm) (by rfl) (by decide) (by rfl) (by decide) (by rfl) ?_)
  walk_at "to src"
  rename Fr _ _ _ _ => F1
  rename News _ _ _ _ => N1
  rename_i a1 _ _ D1 ws1 _ hI1 _ _ l1 D2 ws2 _ hI2 l2
  have N2 : News _ _ _ ((D2, listOf ws2.toArray 0) :: news) := news_sub N1 (List.forall_mem_cons.mpr ⟨.head _, fun p hp => .tail _ (.tail _ (.tail _ hp))⟩)
  clear N1
  dsimp only at F1 N2 ⊢
  have hl0 : ws2.length = ([9, 25, 1] ++ ns.take 5 : List Int).length := hI2.length
  have hl1 : ([9, 25, 1] ++ ns.take 5 : List Int).length ≤ 8 := by simp; omega
  have hsz : ws2.toArray.size = ([9, 25, 1] ++ ns.take 5 : List Int).length := by rw [List.size_toArray]; exact hl0
  k_dflt (refine PyProof.Rows.LCg.CompSrc.ledger (by rfl) F1 N2 (.head _) (by have := sizeLine_eq; omega) ?_)
  intro g1
  rw [hsz]
  refine compRest_inv (fun i ys nw => ∃ es : List En, ys = vals es ∧ es.map En.d = (([9, 25, 1] ++ ns.take 5).take i).map ctrD ∧ (∀ e ∈ es, (e.t, e.obj) ∈ nw) ∧ (∀ p ∈ (D2, listOf ws2.toArray 0) :: news, p ∈ nw)) ?_ ?_ _ 0 [] _ (Nat.zero_add _) ⟨[], rfl, rfl, (by intro e he; cases he), fun p hp => hp⟩
  · clear F1 N2
    rintro i ys nw v I oI C oC D m₂ h tk E' hi hv ⟨es, rfl, h1, h2, h3⟩ hC hx F2 N2 off ne
    obtain ⟨x, t2, hx1, rfl⟩ := ints_at hI2 hv
    k_steps
    rename_i t3 _ t4 tk4 D3 _ F3 N3 l3
    refine comp_add F3 N3 l3 off (.inr ⟨_, .tail _ (h3 _ (.head _)), rfl, _, rfl⟩) ?_
    refine ⟨es ++ [⟨D3, x / 7, x % 7 + 1, t3, _, 0⟩], vals_snoc es ⟨D3, x / 7, x % 7 + 1, t3, _, 0⟩, ?_, has_snoc h2 (fun p hp => .tail _ hp) (.head _), fun p hp => .tail _ (h3 p hp)⟩
    have e1 : ∀ v, (En.mk D3 (x / 7) (x % 7 + 1) t3 v 0).d = ctrD x := fun _ => rfl
    rw [take_snoc hx1, List.map_append, List.map_append, h1]
    simp only [List.map_cons, List.map_nil, e1]
  · rintro ys nw ⟨es, rfl, h1, h2, h3⟩
    rw [List.take_length] at h1
    unfold PyProof.Rows.LCg.FinE
    intro D h tk F2 N2 o1
    k_steps
    exact ret D es (vals es).length nw _ _ h1 (fun p hp => h3 p (.tail _ hp)) h2 (off1_mem o1) (by assumption) (by assumption)
structure PLaw (cs : List (Int × Int)) (n b : Nat) : Prop where
  len0 : (hfy pltB (firstsD cs n)).length = n
  in0 : ∀ d ∈ hfy pltB (firstsD cs n), 0 ≤ d.2 ∧ d.2 < (n : Int)
  len1 : (fwdN cs b (hfy pltB (firstsD cs n))).length = n
  und : hd0 (sup pltB ((fwdN cs b (hfy pltB (firstsD cs n))).set 0 ((hd0 (fwdN cs b (hfy pltB (firstsD cs n)))).1 - 1, -1)) 0) = ((hd0 (fwdN cs b (hfy pltB (firstsD cs n)))).1 - 1, -1)
  len2 : (undD (fwdN cs b (hfy pltB (firstsD cs n)))).length = n
  in2 : ∀ d ∈ undD (fwdN cs b (hfy pltB (firstsD cs n))), 0 ≤ d.2 ∧ d.2 < (n : Int)
  pos3 : 0 < (((undD (fwdN cs b (hfy pltB (firstsD cs n)))).map (backD cs)).filter (keepD cs)).length
  len3 : (((undD (fwdN cs b (hfy pltB (firstsD cs n)))).map (backD cs)).filter (keepD cs)).length ≤ n
  ovr : hd0 (sup pgtB ((hfy pgtB (((undD (fwdN cs b (hfy pltB (firstsD cs n)))).map (backD cs)).filter (keepD cs))).set 0 ((hd0 (hfy pgtB (((undD (fwdN cs b (hfy pltB (firstsD cs n)))).map (backD cs)).filter (keepD cs)))).1 + 1, -1)) 0) = ((hd0 (hfy pgtB (((undD (fwdN cs b (hfy pltB (firstsD cs n)))).map (backD cs)).filter (keepD cs)))).1 + 1, -1)
  len4 : (ovrD (hfy pgtB (((undD (fwdN cs b (hfy pltB (firstsD cs n)))).map (backD cs)).filter (keepD cs)))).length ≤ n
  in4 : ∀ d ∈ ovrD (hfy pgtB (((undD (fwdN cs b (hfy pltB (firstsD cs n)))).map (backD cs)).filter (keepD cs))), 0 ≤ d.2 ∧ d.2 < (n : Int)
  told : ∀ (k : Nat) (d : Int × Int), (toldD cs b (hfy pltB (firstsD cs n)))[k]? = some d → (0 ≤ d.2 ∧ d.2 < (n : Int)) ∧ (cat cs d.2).1 ≤ d.1 ∧ (d.1 - (cat cs d.2).1) % (cat cs d.2).2 = 0 ∧ ahd cs d n = (k : Int)
  next : (undD (fwdN cs b (hfy pltB (firstsD cs n)))).Perm (nextD cs ((toldD cs b (hfy pltB (firstsD cs n))).map Prod.snd) n)
  back : (btoldD cs b (ovrD (hfy pgtB (((undD (fwdN cs b (hfy pltB (firstsD cs n)))).map (backD cs)).filter (keepD cs))))).reverse = toldD cs b (hfy pltB (firstsD cs n))
  empty : bwdN cs b (ovrD (hfy pgtB (((undD (fwdN cs b (hfy pltB (firstsD cs n)))).map (backD cs)).filter (keepD cs)))) = []
def kval {α : Type} (lt : Nat → Nat → Bool) : KasT α → α
  | .ret a => a
  | .ask i j k => kval lt (k (lt i j))
theorem kval_bind {α β : Type} (lt : Nat → Nat → Bool) (f : α → KasT β) : ∀ t : KasT α, kval lt (t.bind f) = kval lt (f (kval lt t))
  | .ret _ => rfl
  | .ask i j k => kval_bind lt f (k (lt i j))
structure KOk (n : Nat) (p : Array Nat) : Prop where
  size : p.size = n
  perm : p.toList.Perm (List.range n)
theorem KOk.lt {n : Nat} {p : Array Nat} (h : KOk n p) {i : Nat} (hi : i < n) : p.getD i 0 < n := by
  have hs := h.size
  have hi' : i < p.size := by omega
  have e : p.getD i 0 = p[i] := by simp [Array.getD, hi']
  rw [e]
  have hm : p[i] ∈ p.toList := by simp
  exact List.mem_range.mp (h.perm.mem_iff.mp hm)
theorem KOk.ne {n : Nat} {p : Array Nat} (h : KOk n p) {i j : Nat} (hi : i < n) (hj : j < n) (hij : i ≠ j) : p.getD i 0 ≠ p.getD j 0 := by
  have hs := h.size
  have hi' : i < p.size := by omega
  have hj' : j < p.size := by omega
  have e : p.getD i 0 = p[i] := by simp [Array.getD, hi']
  have e' : p.getD j 0 = p[j] := by simp [Array.getD, hj']
  rw [e, e']
  have nd : p.toList.Nodup := h.perm.nodup_iff.mpr List.nodup_range
  have nd' := List.pairwise_iff_getElem.mp nd
  rcases Nat.lt_or_gt_of_ne hij with q | q
  · have := nd' i j (by simpa using hi') (by simpa using hj') q
    simpa using this
  · have := nd' j i (by simpa using hj') (by simpa using hi') q
    intro e
    exact this (by simpa using e.symm)
def KTo (lt : Nat → Nat → Bool) (p : Array Nat) (k : Nat) : Prop := ∀ i j, i < j → j < k → lt (p.getD i 0) (p.getD j 0) = true
def KDn (lt : Nat → Nat → Bool) (p : Array Nat) (k : Nat) : Prop := ∀ i j, i < j → j < k → lt (p.getD j 0) (p.getD i 0) = true
structure KLt (n : Nat) (lt : Nat → Nat → Bool) : Prop where
  tr : ∀ {a b c}, lt a b = true → lt b c = true → lt a c = true
  tot : ∀ {a b}, a < n → b < n → a ≠ b → lt a b = false → lt b a = true
section
variable {n : Nat} {lt : Nat → Nat → Bool} {p : Array Nat}
theorem kto_succ (H : KLt n lt) {k : Nat} (h1 : 1 ≤ k) (h : KTo lt p k) (hl : lt (p.getD (k - 1) 0) (p.getD k 0) = true) : KTo lt p (k + 1) := by
  intro i j hij hj
  by_cases hjk : j < k
  · exact h i j hij hjk
  · have : j = k := by omega
    subst this
    by_cases hi : i = j - 1
    · subst hi; exact hl
    · exact H.tr (h i (j - 1) (by omega) (by omega)) hl
theorem kdn_succ (H : KLt n lt) {k : Nat} (h1 : 1 ≤ k) (h : KDn lt p k) (hl : lt (p.getD k 0) (p.getD (k - 1) 0) = true) : KDn lt p (k + 1) := by
  intro i j hij hj
  by_cases hjk : j < k
  · exact h i j hij hjk
  · have : j = k := by omega
    subst this
    by_cases hi : i = j - 1
    · subst hi; exact hl
    · exact H.tr hl (h i (j - 1) (by omega) (by omega))
theorem kasc_val (H : KLt n lt) (G : KOk n p) : ∀ (f m : Nat), 1 ≤ m → m + f ≤ n → KTo lt p m →
    m ≤ kval lt (kas_asc p f m) ∧ kval lt (kas_asc p f m) ≤ m + f ∧ KTo lt p (kval lt (kas_asc p f m)) ∧ (kval lt (kas_asc p f m) < m + f → lt (p.getD (kval lt (kas_asc p f m)) 0) (p.getD (kval lt (kas_asc p f m) - 1) 0) = true)
  | 0, m, h1, h2, h3 => ⟨Nat.le_refl _, Nat.le_refl _, h3, fun q => absurd q (Nat.lt_irrefl _)⟩
  | f + 1, m, h1, h2, h3 => by
    simp only [kas_asc, kval]
    cases hc : lt (p.getD m 0) (p.getD (m - 1) 0) with
    | true =>
      simp only [if_true, kval]
      exact ⟨Nat.le_refl _, by omega, h3, fun _ => hc⟩
    | false =>
      simp only [Bool.false_eq_true, if_false]
      have hl := H.tot (G.lt (i := m) (by omega)) (G.lt (i := m - 1) (by omega)) (G.ne (by omega) (by omega) (by omega)) hc
      have ih := kasc_val H G f (m + 1) (by omega) (by omega) (kto_succ H h1 h3 hl)
      exact ⟨by omega, by omega, ih.2.2.1, fun q => ih.2.2.2 (by omega)⟩
theorem kdesc_val (H : KLt n lt) (G : KOk n p) : ∀ (f m : Nat), 1 ≤ m → m + f ≤ n → KDn lt p m →
    ∃ m', kval lt (kas_desc f p m 0) = (p, m', 0) ∧ m ≤ m' ∧ m' ≤ m + f ∧ KDn lt p m'
  | 0, m, h1, h2, h3 => ⟨m, rfl, Nat.le_refl _, Nat.le_refl _, h3⟩
  | f + 1, m, h1, h2, h3 => by
    simp only [kas_desc, kval]
    cases hc : lt (p.getD m 0) (p.getD (m - 1) 0) with
    | true =>
      simp only [if_true, Nat.lt_irrefl, gt_iff_lt, if_false]
      obtain ⟨m', e, a, b, c⟩ := kdesc_val H G f (m + 1) (by omega) (by omega) (kdn_succ H h1 h3 hc)
      exact ⟨m', e, by omega, by omega, c⟩
    | false =>
      simp only [Bool.false_eq_true, if_false, kval]
      have hl := H.tot (G.lt (i := m) (by omega)) (G.lt (i := m - 1) (by omega)) (G.ne (by omega) (by omega) (by omega)) hc
      rw [hl]
      exact ⟨m, rfl, Nat.le_refl _, by omega, h3⟩
theorem krev_ok (G : KOk n p) (i j : Nat) : KOk n (kas_rev p i j) := ⟨(kas_rev_size i j).trans G.size, (Array.perm_iff_toList_perm.mp (mirror_perm p i j _)).trans G.perm⟩
theorem getD_opt {xs : Array Nat} {i : Nat} : xs.getD i 0 = (xs[i]?).getD 0 := by simp
theorem krev_to (G : KOk n p) {m : Nat} (hm : m ≤ n) (h : KDn lt p m) : KTo lt (kas_rev p 0 m) m := by
  intro i j hij hj
  have hs := G.size
  have e : ∀ k, k < m → (kas_rev p 0 m).getD k 0 = p.getD (m - 1 - k) 0 := by
    intro k hk
    rw [getD_opt, getD_opt]
    unfold kas_rev
    rw [getElem?_mirror_all (by omega), if_pos ⟨Nat.zero_le _, hk⟩, Nat.zero_add]
  rw [e i (by omega), e j hj]
  exact h (m - 1 - j) (m - 1 - i) (by omega) (by omega)
theorem kcount_val (H : KLt n lt) (G : KOk n p) (hn : 1 ≤ n) : ∃ m p', kval lt (kas_count n p) = (m, p') ∧ 1 ≤ m ∧ m ≤ n ∧ KOk n p' ∧ KTo lt p' m := by
  unfold kas_count
  rw [kval_bind]
  have a := kasc_val H G (n - 1) 1 (Nat.le_refl _) (by omega) (fun i j h1 h2 => by omega)
  generalize kval lt (kas_asc p (n - 1) 1) = m at a
  obtain ⟨a1, a2, a3, a4⟩ := a
  by_cases e1 : m = n
  · subst e1
    simp only [beq_self_eq_true, if_true, kval]
    exact ⟨_, _, rfl, a1, Nat.le_refl _, G, a3⟩
  · have e1' : (m == n) = false := by simp [e1]
    rw [e1']
    simp only [Bool.false_eq_true, if_false]
    by_cases e2 : m > 1
    · rw [if_pos e2]
      simp only [kval]
      rw [a3 0 (m - 1) (by omega) (by omega)]
      simp only [if_true, kval]
      exact ⟨_, _, rfl, a1, by omega, G, a3⟩
    · rw [if_neg e2]
      have : m = 1 := by omega
      subst this
      have hlt := a4 (by omega)
      unfold kas_descPart
      rw [kval_bind]
      obtain ⟨m', e, b1, b2, b3⟩ := kdesc_val H G (n - 2) 2 (by omega) (by omega) (by
        intro i j h1 h2
        have : i = 0 := by omega
        have : j = 1 := by omega
        subst_vars
        exact hlt)
      rw [e]
      simp only [gt_iff_lt, Nat.lt_irrefl, if_false]
      unfold kas_tail3
      rw [kval_bind]
      have c := kasc_val H (krev_ok G 0 m') (n - m') m' (by omega) (by omega) (krev_to G (by omega) b3)
      simp only [kval]
      exact ⟨_, _, rfl, by omega, by omega, krev_ok G 0 m', c.2.2.1⟩
theorem kplace_val (H : KLt n lt) (G : KOk n p) {k : Nat} (hk : k < n) (hS : KTo lt p k) : ∀ (f l r : Nat), l ≤ r → r ≤ k → r ≤ l + f → (∀ i, i < l → lt (p.getD i 0) (p.getD k 0) = true) → (∀ i, r ≤ i → i < k → lt (p.getD k 0) (p.getD i 0) = true) →
    kval lt (kas_place p k f l r) ≤ k ∧ (∀ i, i < kval lt (kas_place p k f l r) → lt (p.getD i 0) (p.getD k 0) = true) ∧ (∀ i, kval lt (kas_place p k f l r) ≤ i → i < k → lt (p.getD k 0) (p.getD i 0) = true)
  | 0, l, r, h1, h2, h3, h4, h5 => by
    simp only [kas_place, kval]
    exact ⟨by omega, h4, fun i a b => h5 i (by omega) b⟩
  | f + 1, l, r, h1, h2, h3, h4, h5 => by
    simp only [kas_place]
    by_cases e : l ≥ r
    · rw [if_pos e]
      simp only [kval]
      exact ⟨by omega, h4, fun i a b => h5 i (by omega) b⟩
    · rw [if_neg e]
      simp only [kval]
      cases hc : lt (p.getD k 0) (p.getD ((l + r) / 2) 0) with
      | true =>
        simp only [if_true]
        refine kplace_val H G hk hS f l ((l + r) / 2) (by omega) (by omega) (by omega) h4 fun i a b => ?_
        by_cases q : i = (l + r) / 2
        · rw [q]; exact hc
        · exact H.tr hc (hS _ _ (by omega) b)
      | false =>
        simp only [Bool.false_eq_true, if_false]
        have hl := H.tot (G.lt (i := k) (by omega)) (G.lt (i := (l + r) / 2) (by omega)) (G.ne (by omega) (by omega) (by omega)) hc
        refine kplace_val H G hk hS f ((l + r) / 2 + 1) r (by omega) (by omega) (by omega) (fun i a => ?_) h5
        by_cases q : i = (l + r) / 2
        · rw [q]; exact hl
        · exact H.tr (hS i _ (by omega) (by omega)) hl
theorem kbub_ok (G : KOk n p) (k d : Nat) : KOk n (bubble p k d) := ⟨(bubble_size p k d).trans G.size, (Array.perm_iff_toList_perm.mp (bubble_perm p k d)).trans G.perm⟩
theorem kbub_to (H : KLt n lt) (G : KOk n p) {k l : Nat} (hk : k < n) (hS : KTo lt p k) (hl : l ≤ k) (h1 : ∀ i, i < l → lt (p.getD i 0) (p.getD k 0) = true) (h2 : ∀ i, l ≤ i → i < k → lt (p.getD k 0) (p.getD i 0) = true) : KTo lt (bubble p k (k - l)) (k + 1) := by
  have hs := G.size
  have e : ∀ i, (bubble p k (k - l)).getD i 0 = if i = l then p.getD k 0 else if l < i ∧ i ≤ k then p.getD (i - 1) 0 else p.getD i 0 := by
    intro i
    rw [getD_opt, getElem?_bubble (by omega) _ (by omega)]
    have : k - (k - l) = l := by omega
    rw [this]
    repeat' split
    all_goals rw [getD_opt]
  intro i j hij hj
  rw [e i, e j]
  by_cases q1 : i = l
  · rw [if_pos q1, if_neg (by omega), if_pos (by omega)]
    exact h2 _ (by omega) (by omega)
  · rw [if_neg q1]
    by_cases q2 : j = l
    · rw [if_pos q2, if_neg (by omega)]
      exact h1 _ (by omega)
    · rw [if_neg q2]
      by_cases q3 : l < i
      · rw [if_pos (by omega), if_pos (by omega)]
        exact hS _ _ (by omega) (by omega)
      · rw [if_neg (by omega)]
        by_cases q4 : l < j
        · rw [if_pos (by omega)]
          by_cases q5 : i = j - 1
          · omega
          · exact hS _ _ (by omega) (by omega)
        · rw [if_neg (by omega)]
          exact hS _ _ (by omega) (by omega)
theorem kbin_val (H : KLt n lt) : ∀ (f : Nat) (p : Array Nat) (k : Nat), KOk n p → k + f = n → KTo lt p k → KOk n (kval lt (kas_bin f p k)) ∧ KTo lt (kval lt (kas_bin f p k)) n
  | 0, p, k, G, h1, h2 => by
    simp only [kas_bin, kval]
    have : k = n := by omega
    subst this
    exact ⟨G, h2⟩
  | f + 1, p, k, G, h1, h2 => by
    simp only [kas_bin]
    rw [kval_bind]
    have a := kplace_val H G (k := k) (by omega) h2 k 0 k (by omega) (Nat.le_refl _) (by omega) (fun i q => by omega) (fun i q1 q2 => by omega)
    generalize kval lt (kas_place p k k 0 k) = l at a
    exact kbin_val H f _ (k + 1) (kbub_ok G k (k - l)) (by omega) (kbub_to H G (by omega) h2 a.1 a.2.1 a.2.2)
theorem ksort_val (H : KLt n lt) (hn : 1 ≤ n) : KOk n (kval lt (kas_sort n)) ∧ KTo lt (kval lt (kas_sort n)) n := by
  unfold kas_sort
  rw [kval_bind]
  obtain ⟨m, p', e, a1, a2, a3, a4⟩ := kcount_val H (p := List.toArray (List.range n)) ⟨by simp, by simp⟩ hn
  rw [e]
  by_cases q : m < n
  · simp only [if_pos q]
    have : max m 1 = m := by omega
    rw [this]
    exact kbin_val H _ _ _ a3 (by omega) a4
  · simp only [if_neg q, kval]
    have : m = n := by omega
    subst this
    exact ⟨a3, a4⟩
end
inductive AOk {α : Type} (n : Nat) (P : α → Prop) : KasT α → Prop
  | ret {a} (h : P a) : AOk n P (.ret a)
  | ask {i j k} (hi : i < n) (hj : j < n) (h : ∀ b, AOk n P (k b)) : AOk n P (.ask i j k)
theorem AOk.bind {α β : Type} {n : Nat} {P : α → Prop} {R : β → Prop} {f : α → KasT β} {t : KasT α} (h : AOk n P t) (hf : ∀ a, P a → AOk n R (f a)) : AOk n R (t.bind f) := by
  induction h with
  | ret h => exact hf _ h
  | ask hi hj _ ih => exact .ask hi hj ih
def PB (n : Nat) (p : Array Nat) : Prop := ∀ i, p.getD i 0 < n
theorem pb_perm {n : Nat} {p q : Array Nat} (h : q.Perm p) (hp : PB n p) : PB n q := by
  intro i
  by_cases hi : i < q.size
  · have e : q.getD i 0 = q[i] := by simp [Array.getD, hi]
    rw [e]
    have hm : q[i] ∈ p := h.mem_iff.mp (Array.getElem_mem hi)
    obtain ⟨j, hj, e2⟩ := Array.mem_iff_getElem.mp hm
    have := hp j
    rw [← e2]
    simpa [Array.getD, hj] using this
  · have e : q.getD i 0 = 0 := by simp [Array.getD, hi]
    have := hp i
    rw [e]
    omega
section
variable {n : Nat}
theorem aok_asc {p : Array Nat} (h : PB n p) : ∀ f m, AOk n (fun _ => True) (kas_asc p f m)
  | 0, m => .ret trivial
  | f + 1, m => .ask (h _) (h _) fun b => by
    cases b with
    | true => exact .ret trivial
    | false => exact aok_asc h f (m + 1)
theorem aok_desc : ∀ f (p : Array Nat) m q, PB n p → AOk n (fun r => PB n r.1) (kas_desc f p m q)
  | 0, p, m, q, h => .ret h
  | f + 1, p, m, q, h => .ask (h _) (h _) fun b => by
    cases b with
    | true =>
      simp only [if_true]
      split
      · exact aok_desc f _ _ _ (pb_perm (mirror_perm _ _ _ _) h)
      · exact aok_desc f _ _ _ h
    | false =>
      simp only [Bool.false_eq_true, if_false]
      refine .ask (h _) (h _) fun b => ?_
      cases b with
      | true => exact .ret h
      | false => exact aok_desc f _ _ _ h
theorem aok_tail3 {p : Array Nat} (h : PB n p) (m r : Nat) : AOk n (fun r => PB n r.2) (kas_tail3 m r p) :=
  (aok_asc (pb_perm (mirror_perm _ _ _ _) h) _ _).bind fun _ _ => .ret (pb_perm (mirror_perm _ _ _ _) h)
theorem aok_descPart {p : Array Nat} (h : PB n p) (m r : Nat) : AOk n (fun r => PB n r.2) (kas_descPart m r p) :=
  (aok_desc _ _ _ _ h).bind fun a ha => by
    split
    · exact aok_tail3 (pb_perm (mirror_perm _ _ _ _) ha) _ _
    · exact aok_tail3 ha _ _
theorem aok_count {p : Array Nat} (h : PB n p) (r : Nat) : AOk n (fun r => PB n r.2) (kas_count r p) :=
  (aok_asc h _ _).bind fun a _ => by
    split
    · exact .ret h
    · split
      · refine .ask (h _) (h _) fun b => ?_
        cases b with
        | true => exact .ret h
        | false => exact aok_descPart (pb_perm (mirror_perm _ _ _ _) h) _ _
      · exact aok_descPart h _ _
theorem aok_place {p : Array Nat} (h : PB n p) (k : Nat) : ∀ f l r, AOk n (fun _ => True) (kas_place p k f l r)
  | 0, l, r => .ret trivial
  | f + 1, l, r => by
    unfold kas_place
    split
    · exact .ret trivial
    · refine .ask (h _) (h _) fun b => ?_
      cases b with
      | true => exact aok_place h k f _ _
      | false => exact aok_place h k f _ _
theorem aok_bin : ∀ f (p : Array Nat) k, PB n p → AOk n (fun _ => True) (kas_bin f p k)
  | 0, p, k, h => .ret trivial
  | f + 1, p, k, h => (aok_place h k k 0 k).bind fun l _ => aok_bin f _ _ (pb_perm (bubble_perm _ _ _) h)
theorem aok_sort (hn : 1 ≤ n) : AOk n (fun _ => True) (kas_sort n) := by
  have h : PB n (List.toArray (List.range n)) := by
    intro i
    by_cases hi : i < n
    · simp [hi]
    · simp [hi]; omega
  refine (aok_count h n).bind fun a ha => ?_
  split
  · exact aok_bin _ _ _ ha
  · exact .ret trivial
end
theorem kwp_val {α : Type} {cmp : Nat → Nat → (Bool → Shared → Prop) → Shared → Prop} {lt : Nat → Nat → Bool} {n : Nat} {s : Shared} (h : ∀ i j (C : Bool → Shared → Prop), i < n → j < n → C (lt i j) s → cmp i j C s) {P : α → Prop} {Q : α → Shared → Prop} {t : KasT α} (ht : AOk n P t) : Q (kval lt t) s → t.kasWp cmp Q s := by
  induction ht with
  | ret _ => exact id
  | ask hi hj _ ih => exact fun q => h _ _ _ hi hj (ih _ q)
theorem pltB_tr {a b c : Int × Int} (h1 : pltB a b = true) (h2 : pltB b c = true) : pltB a c = true := by
  obtain ⟨a1, a2⟩ := a; obtain ⟨b1, b2⟩ := b; obtain ⟨c1, c2⟩ := c
  simp only [pltB, Bool.or_eq_true, Bool.and_eq_true, decide_eq_true_eq] at *
  omega
theorem pltB_tot {a b : Int × Int} (hne : a ≠ b) (h : pltB a b = false) : pltB b a = true := by
  obtain ⟨a1, a2⟩ := a; obtain ⟨b1, b2⟩ := b
  simp only [pltB, Bool.or_eq_true, Bool.and_eq_true, decide_eq_true_eq, Bool.or_eq_false_iff, Bool.and_eq_false_iff, decide_eq_false_iff_not, ne_eq, Prod.mk.injEq] at *
  omega
theorem keyLt_en {prog : Program} {w : World} {A : Around} {E : Value → Shared → Prop} {s : Shared} {a b : En} {Q : Bool → Shared → Prop} (ha : s.heap.get? a.t = some a.obj) (hb : s.heap.get? b.t = some b.obj) (h : Q (En.lt a b) s) : wpAny (model prog w) A (keyLt' (tuples' true) a.val b.val) Q E s := by
  refine kat_lt ha rfl hb rfl ?_
  show KatLex prog w A true false Q [(.int a.x a.u, .int b.x b.u), (.int a.y a.v, .int b.y b.v)] 0 s
  refine kat_cons (wpAny_eqBool_int ?_)
  by_cases hx : a.x = b.x
  · rw [show (a.x == b.x) = true by simpa using hx]
    refine kat_yes (kat_cons (wpAny_eqBool_int ?_))
    by_cases hy : a.y = b.y
    · rw [show (a.y == b.y) = true by simpa using hy]
      refine kat_yes (kat_nil ?_)
      have e : En.lt a b = false := by simp [En.lt, En.d, pltB, hx, hy]
      rw [e] at h
      exact h
    · rw [show (a.y == b.y) = false by simpa using hy]
      refine kat_no ?_
      show wpAny (model prog w) A (oneLt' false _ _) Q _ s
      refine kat_one _ _ (PyProof.Rows.lt_int ?_)
      have e : En.lt a b = decide (a.y < b.y) := by simp [En.lt, En.d, pltB, hx]
      rw [e] at h
      exact h
  · rw [show (a.x == b.x) = false by simpa using hx]
    refine kat_no ?_
    show wpAny (model prog w) A (oneLt' true _ _) Q _ s
    refine oneLt_int ?_
    have e : En.lt a b = decide (a.x < b.x) := pltB_ne hx
    rw [e] at h
    exact h
theorem en_tups {h : Heap} : ∀ {es : List En}, (∀ e ∈ es, h.get? e.t = some e.obj) → KatTups h (vals es) (es.map fun e => Value.int e.x e.u)
  | [], _ => .nil
  | e :: es, H => KatTups.cons (H e (.head _)) rfl rfl rfl (en_tups fun e' he => H e' (.tail _ he))
def enAt (es : List En) (i : Nat) : En := es.getD i ⟨0, 0, 0, 0, 0, 0⟩
theorem vals_getD {es : List En} {i : Nat} (hi : i < es.length) : (vals es).getD i Value.none = (enAt es i).val := by
  simp [vals, enAt, hi]
theorem enAt_mem {es : List En} {i : Nat} (hi : i < es.length) : enAt es i ∈ es := by
  simp [enAt, hi]
def StrictD (l : List (Int × Int)) : Prop := l.Pairwise (fun a b => pltB a b = true)
theorem sorted_en (w : World) {prog : Program} {A : Around} {E Q : Value → Shared → Prop} {s : Shared} {h₀ : Heap} {L : Addr} {m : Str → Option Value} {news : List (Addr × Obj)} {l : Addr} {es : List En} {k : Nat}
    (F : Fr h₀ L s.heap m) (N : News h₀ L s.heap news) (hl : (l, listOf (vals es).toArray k) ∈ news) (hes : ∀ e ∈ es, (e.t, e.obj) ∈ news) (h2 : 2 ≤ es.length) (h64 : es.length < 64) (hd : (es.map En.d).Nodup)
    (ret : ∀ D es' c h', es'.Perm es → StrictD (es'.map En.d) → (∀ q ∈ news, q.1 < D) → Fr h₀ L h' m → News h₀ L h' ((D, listOf (vals es').toArray c) :: news) → Q (.ref D) { s with heap := h' }) :
    wpAny (model prog w) A (call (.builtin "sorted") [.ref l]) Q E s := by
  have hvl : (vals es).length = es.length := by simp [vals]
  refine kat_sorted (vs := vals es) F N ⟨_, (N _ hl).1, rfl, _, rfl⟩ (by omega) (by omega) ?_
  intro D e1 h' F' N' hD
  have Nh : ∀ e ∈ es, h'.get? e.t = some e.obj := fun e he => (N' _ (.tail _ (hes e he))).1
  refine kat_kind (T := Value.type "int") (en_tups Nh) (by rw [List.length_map]; omega) ?_ rfl ?_
  · intro v hv
    obtain ⟨e, _, rfl⟩ := List.mem_map.mp hv
    exact .now
  · show (kas_sort (vals es).length).kasWp (kas_ask prog w A.in1.in1 (tuples' true) (vals es)) _ _
    rw [hvl]
    refine kwp_val (lt := fun i j => En.lt (enAt es i) (enAt es j)) (n := es.length) (fun i j C hi hj hC => ?_) (aok_sort (by omega)) ?_
    · show wpAny _ _ (keyLt' (tuples' true) ((vals es).getD i Value.none) ((vals es).getD j Value.none)) _ _ _
      rw [vals_getD hi, vals_getD hj]
      exact keyLt_en (Nh _ (enAt_mem hi)) (Nh _ (enAt_mem hj)) hC
    · have H : KLt es.length (fun i j => En.lt (enAt es i) (enAt es j)) := by
        refine ⟨fun {a b c} h1 h2 => ?_, fun {a b} ha hb hab h => ?_⟩
        · exact pltB_tr h1 h2
        · refine pltB_tot ?_ h
          intro q
          apply hab
          have e1 : enAt es a = es[a] := by simp [enAt, ha]
          have e2 : enAt es b = es[b] := by simp [enAt, hb]
          rw [e1, e2] at q
          have nd := List.pairwise_iff_getElem.mp hd
          rcases Nat.lt_trichotomy a b with g | g | g
          · exact absurd (by rw [List.getElem_map, List.getElem_map]; exact q) (nd a b (by simpa using ha) (by simpa using hb) g)
          · exact g
          · exact absurd (by rw [List.getElem_map, List.getElem_map]; exact q.symm) (nd b a (by simpa using hb) (by simpa using ha) g)
      obtain ⟨G, S⟩ := ksort_val H (by omega)
      generalize kval (fun i j => En.lt (enAt es i) (enAt es j)) (kas_sort es.length) = p at G S
      refine KasFin.intro F' N' (.head (fun q hq => Nat.ne_of_lt (hD q hq))) ?_
      intro h3 c F3 N3
      have ev : (p.toList.map fun i => (vals es).getD i Value.none) = vals (p.toList.map (enAt es)) := by
        unfold vals
        rw [List.map_map]
        refine List.map_congr_left fun i hi => ?_
        exact vals_getD (List.mem_range.mp (G.perm.mem_iff.mp hi))
      rw [ev] at N3
      refine ret D _ c h3 ?_ ?_ hD F3 N3
      · refine (G.perm.map _).trans (List.Perm.of_eq ?_)
        apply List.ext_getElem
        · simp
        · intro i a b
          simp only [List.length_map, List.length_range] at a
          simp [enAt, a]
      · unfold StrictD
        rw [List.map_map, List.pairwise_map, List.pairwise_iff_getElem]
        intro i j hi hj hij
        have := G.size
        have := S i j hij (by simpa [G.size] using hj)
        simp only [Array.length_toList] at hi hj
        simpa [Array.getD, hi, hj, En.lt] using this
def datOf (e : En) : Dat := .tuple [.int e.x, .int e.y]
theorem en_dats {news : List (Addr × Obj)} : ∀ {es : List En}, (∀ e ∈ es, (e.t, e.obj) ∈ news) → DatAll news (vals es) (es.map datOf)
  | [], _ => .nil
  | e :: es, H => .cons (.tuple (vs := [.int e.x e.u, .int e.y e.v]) (H e (.head _)) (.cons (.int _ _) (.cons (.int _ _) .nil))) (en_dats fun e' he => H e' (.tail _ he))
theorem dats_eq : ∀ {es fs : List En}, es.map En.d = fs.map En.d → es.map datOf = fs.map datOf
  | [], [], _ => rfl
  | [], _ :: _, h => by simp at h
  | _ :: _, [], h => by simp at h
  | e :: es, f :: fs, h => by
    simp only [List.map_cons, List.cons.injEq] at h ⊢
    refine ⟨?_, dats_eq h.2⟩
    have := h.1
    simp only [En.d, Prod.mk.injEq] at this
    simp [datOf, this.1, this.2]
theorem dats_ok {es : List En} : ∀ d ∈ es.map datOf, kqdOk 8 d = true := by
  intro d hd
  obtain ⟨e, _, rfl⟩ := List.mem_map.mp hd
  rfl
theorem eq_ens {prog : Program} {w : World} {A : Around} {E : Value → Shared → Prop} {s : Shared} {h₀ : Heap} {L a b : Addr} {news : List (Addr × Obj)} {es fs : List En} {k n : Nat} {Q : Value → Shared → Prop} (N : News h₀ L s.heap news) (ma : (a, listOf (vals es).toArray k) ∈ news) (hes : ∀ e ∈ es, (e.t, e.obj) ∈ news)
    (mb : (b, listOf (vals fs).toArray n) ∈ news) (hfs : ∀ e ∈ fs, (e.t, e.obj) ∈ news) (hu : A.units + 64 < cLine) (hd : es.map En.d = fs.map En.d) (h : Q (.bool true) s) : wpAny (model prog w) A (compareOp .Eq (.ref a) (.ref b)) Q E s := by
  refine kqd_eq N ma rfl rfl (en_dats hes) (fun p hp => hp) mb rfl rfl (en_dats hfs) (fun p hp => hp) dats_ok dats_ok hu ?_
  have e : ∀ i : Decidable (es.map datOf = fs.map datOf), Q (.bool (@decide _ i)) s := fun i => by rw [@decide_eq_true _ i (dats_eq hd)]; exact h
  exact e _
theorem strict_uniq : ∀ {l1 l2 : List (Int × Int)}, l1.Perm l2 → StrictD l1 → StrictD l2 → l1 = l2
  | [], [], _, _, _ => rfl
  | [], _ :: _, h, _, _ => absurd h.length_eq (by simp)
  | _ :: _, [], h, _, _ => absurd h.length_eq (by simp)
  | a :: l1, b :: l2, h, h1, h2 => by
    have as : ∀ {x y : Int × Int}, pltB x y = true → pltB y x = true → False := fun p q => by
      have := pltB_ord.as p
      rw [this] at q
      cases q
    have e : a = b := by
      have ma : a ∈ b :: l2 := h.mem_iff.mp (.head _)
      have mb : b ∈ a :: l1 := h.mem_iff.mpr (.head _)
      rcases List.mem_cons.mp ma with q | q
      · exact q
      · rcases List.mem_cons.mp mb with q' | q'
        · exact q'.symm
        · exact (as ((List.pairwise_cons.mp h2).1 a q) ((List.pairwise_cons.mp h1).1 b q')).elim
    subst e
    rw [strict_uniq (List.Perm.cons_inv h) (List.pairwise_cons.mp h1).2 (List.pairwise_cons.mp h2).2]
theorem ctr_step {ns : List Int} {d : Int × Int} (h : d ∈ ctrsD ns) : 0 < d.2 ∧ d.2 ≤ 10 := by
  unfold ctrsD at h
  obtain ⟨x, _, rfl⟩ := List.mem_map.mp h
  show 0 < x % 7 + 1 ∧ x % 7 + 1 ≤ 10
  omega
theorem told_len (cs : List (Int × Int)) : ∀ (b : Nat) (hs : List (Int × Int)), (toldD cs b hs).length = b := by
  intro b
  induction b with
  | zero => intro hs; rfl
  | succ b ih => intro hs; simp [toldD, ih]
theorem next_nodup (cs : List (Int × Int)) (pl : List Int) (n : Nat) : (nextD cs pl n).Nodup := by
  unfold nextD List.Nodup
  rw [List.pairwise_map]
  refine List.Pairwise.imp ?_ List.nodup_range
  intro a b h q
  have := congrArg Prod.snd q
  simp only at this
  omega
section
variable (cs : List (Int × Int)) (n : Nat)
def el (q : Nat → Nat) (j : Nat) : Int × Int := ((cat cs (j : Int)).1 + (cat cs (j : Int)).2 * (q j : Int), (j : Int))
def elB (q : Nat → Nat) (j : Nat) : Int × Int := ((cat cs (j : Int)).1 + (cat cs (j : Int)).2 * (q j : Int) - (cat cs (j : Int)).2, (j : Int))
def conf (q : Nat → Nat) : List (Int × Int) := (List.range n).map (el cs q)
def cfB (q : Nat → Nat) (j : Nat) : List (Int × Int) := if 0 < q j then [elB cs q j] else []
def confB (q : Nat → Nat) : List (Int × Int) := (List.range n).flatMap (cfB cs q)
end
theorem map_upd {β : Type} {f g : Nat → β} {i : Nat} (h : ∀ j, j ≠ i → f j = g j) : ∀ n, i < n → (f i :: (List.range n).map g).Perm (g i :: (List.range n).map f) := by
  intro n hi
  have e : (List.range n).map g = ((List.range n).map f).set i (g i) := by
    apply List.ext_getElem
    · simp
    · intro k h1 h2
      simp only [List.getElem_map, List.getElem_range, List.getElem_set]
      split
      · rename_i q; rw [q]
      · rename_i q; exact (h k (fun r => q r.symm)).symm
  rw [e]
  have hl : i < ((List.range n).map f).length := by simpa using hi
  have := set_perm_cons (x := g i) hl
  simpa using this
theorem flat_upd {β : Type} {f g : Nat → List β} {i : Nat} (h : ∀ j, j ≠ i → f j = g j) : ∀ n, i < n → (f i ++ (List.range n).flatMap g).Perm (g i ++ (List.range n).flatMap f) := by
  intro n
  induction n with
  | zero => intro hi; omega
  | succ n ih =>
    intro hi
    rw [List.range_succ, List.flatMap_append, List.flatMap_append, List.flatMap_cons, List.flatMap_nil, List.append_nil, List.flatMap_cons, List.flatMap_nil, List.append_nil]
    by_cases q : i = n
    · subst q
      have e : (List.range i).flatMap f = (List.range i).flatMap g := by
        have : ∀ j ∈ List.range i, f j = g j := fun j hj => h j (by have := List.mem_range.mp hj; omega)
        rw [List.flatMap_def, List.flatMap_def, List.map_congr_left this]
      rw [e]
      have p1 : (f i ++ ((List.range i).flatMap g ++ g i)).Perm (f i ++ (g i ++ (List.range i).flatMap g)) := List.perm_append_comm.append_left _
      have p2 : (g i ++ ((List.range i).flatMap g ++ f i)).Perm (g i ++ (f i ++ (List.range i).flatMap g)) := List.perm_append_comm.append_left _
      refine p1.trans (List.Perm.trans ?_ p2.symm)
      rw [← List.append_assoc, ← List.append_assoc]
      exact List.perm_append_comm.append_right _
    · rw [← List.append_assoc, ← List.append_assoc, h n (fun r => q r.symm)]
      exact (ih (by omega)).append_right _
theorem set_head_perm {α : Type} {l : List α} {d x : α} (h : l[0]? = some d) : (d :: l.set 0 x).Perm (x :: l) := by
  have hl := (List.getElem?_eq_some_iff.mp h)
  have := set_perm_cons (x := x) hl.1
  rw [hl.2] at this
  exact this
theorem hd0_eq {l : List (Int × Int)} {d : Int × Int} (h : l[0]? = some d) : hd0 l = d := by simp [hd0, h]
theorem top_is {lt : Int × Int → Int × Int → Bool} (O : Ord lt) {l : List (Int × Int)} (H : HeapFrom lt 0 l) {x : Int × Int} (hx : x ∈ l) (hm : ∀ b ∈ l, b ≠ x → lt x b = true) : l[0]? = some x := by
  obtain ⟨k, hk⟩ := List.getElem?_of_mem hx
  have h0 : 0 < l.length := by
    have := (List.getElem?_eq_some_iff.mp hk).1
    omega
  obtain ⟨a, ha⟩ : ∃ a, l[0]? = some a := ⟨l[0], List.getElem?_eq_getElem h0⟩
  have := heap_top O H ha k x hk
  by_cases e : a = x
  · rw [ha, e]
  · rw [hm a (List.mem_of_getElem? ha) e] at this
    cases this
theorem pgtB_ord : Ord pgtB := ⟨fun {a b c} h1 h2 => pltB_ord.tr (a := c) (b := b) (c := a) h2 h1, fun {a b} h => pltB_ord.as (a := b) (b := a) h⟩
/-- an odd item laid on the top stays on the top, and the old top laid back gives the old heap's items -/
theorem odd_top {lt : Int × Int → Int × Int → Bool} (O : Ord lt) {hs : List (Int × Int)} {d x : Int × Int} (H : HeapFrom lt 0 hs) (hd : hs[0]? = some d) (hx : ∀ b ∈ hs, lt x b = true) :
    (sup lt (hs.set 0 x) 0)[0]? = some x ∧ (sup lt ((sup lt (hs.set 0 x) 0).set 0 d) 0).Perm hs ∧ HeapFrom lt 0 (sup lt ((sup lt (hs.set 0 x) 0).set 0 d) 0) := by
  have h0 : 0 < hs.length := (List.getElem?_eq_some_iff.mp hd).1
  have H1 := sup_heap O (heap_set H x)
  have P1 := sup_perm lt (hs.set 0 x) 0
  have mx : x ∈ sup lt (hs.set 0 x) 0 := P1.mem_iff.mpr (List.mem_of_getElem? (by simp [h0] : (hs.set 0 x)[0]? = some x))
  have t := top_is O H1 mx (fun b hb hne => by
    have := P1.mem_iff.mp hb
    rcases List.mem_or_eq_of_mem_set this with q | q
    · exact hx b q
    · exact absurd q hne)
  refine ⟨t, ?_, sup_heap O (heap_set H1 d)⟩
  refine (sup_perm lt _ 0).trans ?_
  have p1 : (x :: (sup lt (hs.set 0 x) 0).set 0 d).Perm (d :: sup lt (hs.set 0 x) 0) := set_head_perm t
  have p2 : (d :: hs.set 0 x).Perm (x :: hs) := set_head_perm hd
  exact (p1.trans ((P1.cons d).trans p2)).cons_inv
theorem hpop_facts {lt : Int × Int → Int × Int → Bool} (O : Ord lt) {T : List (Int × Int)} {d : Int × Int} (H : HeapFrom lt 0 T) (hd : T[0]? = some d) : (d :: hpop lt T).Perm T ∧ HeapFrom lt 0 (hpop lt T) := by
  have h0 : 0 < T.length := (List.getElem?_eq_some_iff.mp hd).1
  have hne : T ≠ [] := by intro q; rw [q] at h0; simp at h0
  have eT : T.dropLast ++ [T.getLast hne] = T := List.dropLast_concat_getLast hne
  have Hd := heap_drop H
  generalize T.dropLast = ini at eT Hd
  generalize T.getLast hne = z at eT
  subst eT
  by_cases hi : ini.length = 0
  · rw [hpop_one _ _ _ hi]
    have : ini = [] := List.length_eq_zero_iff.mp hi
    subst this
    simp at hd
    subst hd
    exact ⟨.refl _, Hd⟩
  · rw [hpop_more _ _ _ (by omega)]
    have hd' : ini[0]? = some d := by
      rw [List.getElem?_append_left (by omega)] at hd
      exact hd
    refine ⟨((sup_perm lt _ 0).cons d).trans ((set_head_perm hd').trans ?_), sup_heap O (heap_set Hd z)⟩
    have : (z :: ini) = [z] ++ ini := rfl
    rw [this]
    exact List.perm_append_comm
theorem pltB_iff {a b : Int × Int} : pltB a b = true ↔ a.1 < b.1 ∨ (a.1 = b.1 ∧ a.2 < b.2) := by simp [pltB]
theorem pltB_not {a b : Int × Int} : pltB a b = false ↔ ¬ (a.1 < b.1 ∨ (a.1 = b.1 ∧ a.2 < b.2)) := by
  rw [← pltB_iff]; simp
def bump (q : Nat → Nat) (i j : Nat) : Nat := q j + if j = i then 1 else 0
def sumq (q : Nat → Nat) : Nat → Nat
  | 0 => 0
  | m + 1 => sumq q m + q m
theorem sumq_bump (q : Nat → Nat) (i : Nat) : ∀ m, sumq (bump q i) m = sumq q m + if i < m then 1 else 0
  | 0 => by simp [sumq]
  | m + 1 => by
    simp only [sumq, sumq_bump q i m, bump]
    by_cases h1 : m = i
    · subst h1; simp; omega
    · by_cases h2 : i < m
      · simp [h1, h2, show i < m + 1 by omega]; omega
      · simp [h1, h2, show ¬ i < m + 1 by omega]
theorem sumq_zero : ∀ m, sumq (fun _ => 0) m = 0
  | 0 => rfl
  | m + 1 => by simp [sumq, sumq_zero m]
section
variable {cs : List (Int × Int)} {n : Nat} (hst : ∀ j : Nat, 0 < (cat cs (j : Int)).2)
include hst
structure StF (cs : List (Int × Int)) (n : Nat) (q : Nat → Nat) (hs : List (Int × Int)) (k : Nat) : Prop where
  perm : hs.Perm (conf cs n q)
  heap : HeapFrom pltB 0 hs
  low : ∀ j, j < n → 0 < q j → ∀ i, i < n → pltB (elB cs q j) (el cs q i) = true
  sum : sumq q n = k
omit hst in
theorem StF.head {q : Nat → Nat} {hs : List (Int × Int)} {k : Nat} (S : StF cs n q hs k) (hn : 0 < n) : ∃ i, i < n ∧ hs[0]? = some (el cs q i) ∧ ∀ j, j < n → pltB (el cs q j) (el cs q i) = false := by
  have hl : hs.length = n := by rw [S.perm.length_eq]; simp [conf]
  have h0 : hs[0]? = some hs[0] := List.getElem?_eq_getElem (by omega)
  have hm := S.perm.mem_iff.mp (List.mem_of_getElem? h0)
  obtain ⟨i, hi, e⟩ := List.mem_map.mp hm
  rw [← e] at h0
  refine ⟨i, List.mem_range.mp hi, h0, fun j hj => ?_⟩
  have hm2 : el cs q j ∈ hs := S.perm.mem_iff.mpr (List.mem_map.mpr ⟨j, List.mem_range.mpr hj, rfl⟩)
  obtain ⟨k, hk⟩ := List.getElem?_of_mem hm2
  exact heap_top pltB_ord S.heap h0 k _ hk
omit hst in
theorem el_ne {q : Nat → Nat} {i j : Nat} (h : i ≠ j) : el cs q i ≠ el cs q j := fun e => by
  have := congrArg Prod.snd e
  simp only [el] at this
  omega
omit hst in
theorem el_bump (q : Nat → Nat) (i : Nat) : el cs (bump q i) i = ((el cs q i).1 + (cat cs (i : Int)).2, (i : Int)) := by
  simp only [el, bump, if_true, Prod.mk.injEq, and_true]
  rw [Int.natCast_add, Int.mul_add]
  simp
  omega
omit hst in
theorem el_keep {q : Nat → Nat} {i j : Nat} (h : j ≠ i) : el cs (bump q i) j = el cs q j := by simp [el, bump, h]
omit hst in
theorem elB_keep {q : Nat → Nat} {i j : Nat} (h : j ≠ i) : elB cs (bump q i) j = elB cs q j := by simp [elB, bump, h]
omit hst in
theorem elB_bump (q : Nat → Nat) (i : Nat) : elB cs (bump q i) i = el cs q i := by
  simp only [el, elB, bump, if_true, Prod.mk.injEq, and_true]
  rw [Int.natCast_add, Int.mul_add]
  simp
  omega
theorem StF.step {q : Nat → Nat} {hs : List (Int × Int)} {k i : Nat} (S : StF cs n q hs k) (hi : i < n) (h0 : hs[0]? = some (el cs q i)) (hm : ∀ j, j < n → pltB (el cs q j) (el cs q i) = false) : StF cs n (bump q i) (fwd cs hs) (k + 1) := by
  have ef : fwd cs hs = sup pltB (hs.set 0 (el cs (bump q i) i)) 0 := by
    unfold fwd
    rw [h0]
    show sup pltB (hs.set 0 ((el cs q i).1 + (cat cs (el cs q i).2).2, (el cs q i).2)) 0 = _
    rw [el_bump]
    rfl
  have hlt : pltB (el cs q i) (el cs (bump q i) i) = true := by
    rw [el_bump]
    refine pltB_iff.mpr (.inl ?_)
    have := hst i
    show (el cs q i).1 < (el cs q i).1 + (cat cs (i : Int)).2
    omega
  refine ⟨?_, ?_, ?_, ?_⟩
  · rw [ef]
    refine (sup_perm pltB _ 0).trans ?_
    have p1 : (el cs q i :: hs.set 0 (el cs (bump q i) i)).Perm (el cs (bump q i) i :: hs) := set_head_perm h0
    have p2 : (el cs q i :: conf cs n (bump q i)).Perm (el cs (bump q i) i :: conf cs n q) := map_upd (fun j hj => (el_keep hj).symm) n hi
    exact (p1.trans ((S.perm.cons _).trans p2.symm)).cons_inv
  · rw [ef]
    exact sup_heap pltB_ord (heap_set S.heap _)
  · intro j hj hq i' hi'
    by_cases e : j = i
    · subst e
      rw [elB_bump]
      by_cases e2 : i' = j
      · subst e2; exact hlt
      · rw [el_keep e2]
        exact pltB_tot (el_ne e2) (hm i' hi')
    · have hq' : 0 < q j := by simpa [bump, e] using hq
      rw [elB_keep e]
      by_cases e2 : i' = i
      · subst e2
        exact pltB_tr (S.low j hj hq' i' hi') hlt
      · rw [el_keep e2]
        exact S.low j hj hq' i' hi'
  · rw [sumq_bump, S.sum]; simp [hi]
omit hst in
theorem ahead_pos {c : Int × Int} {l : Int} {r : Nat} (s : 0 < c.2) (l1 : c.1 + c.2 * (r : Int) ≤ l) (l2 : l < c.1 + c.2 * (r : Int) + c.2) : aheadOf c l = (r : Int) + 1 := by
  obtain ⟨A, T⟩ := c
  simp only at s l1 l2
  unfold aheadOf
  simp only
  have hM0 : 0 ≤ T * (r : Int) := Int.mul_nonneg (by omega) (by omega)
  generalize hM : T * (r : Int) = M at l1 l2 hM0
  rw [if_pos (by omega)]
  have e : (l - A) / T = (r : Int) := by
    apply Int.le_antisymm
    · apply Int.le_of_lt_add_one
      apply Int.ediv_lt_of_lt_mul s
      rw [Int.add_mul, Int.mul_comm, hM]
      omega
    · apply Int.le_ediv_of_mul_le s
      rw [Int.mul_comm, hM]
      omega
  rw [e]
omit hst in
theorem ahead_none {c : Int × Int} {l : Int} (h : l < c.1) : aheadOf c l = 0 := by
  unfold aheadOf
  rw [if_neg (by omega)]
theorem ahead_q {q : Nat → Nat} {hs : List (Int × Int)} {k i : Nat} (S : StF cs n q hs k) (hi : i < n) (hm : ∀ j, j < n → pltB (el cs q j) (el cs q i) = false) {j : Nat} (hj : j < n) : aheadOf (cat cs (j : Int)) (lastD (el cs q i) (j : Int)) = (q j : Int) := by
  have a := pltB_not.mp (hm j hj)
  have s := hst j
  by_cases h0 : q j = 0
  · generalize el cs q i = d at a ⊢
    simp only [el, h0, Int.natCast_zero, Int.mul_zero, Int.add_zero] at a
    rw [h0]
    refine ahead_none ?_
    unfold lastD
    split <;> omega
  · have b := pltB_iff.mp (S.low j hj (by omega) i hi)
    obtain ⟨r, hr⟩ : ∃ r, q j = r + 1 := ⟨q j - 1, by omega⟩
    generalize el cs q i = d at a b ⊢
    simp only [el, elB] at a b
    rw [hr] at a b ⊢
    rw [Int.natCast_add, Int.mul_add] at a b
    simp only [Int.natCast_one, Int.mul_one] at a b
    rw [Int.natCast_add]
    refine ahead_pos s ?_ ?_
    · unfold lastD
      split <;> omega
    · unfold lastD
      split <;> omega
theorem ahd_sum {q : Nat → Nat} {hs : List (Int × Int)} {k i : Nat} (S : StF cs n q hs k) (hi : i < n) (hm : ∀ j, j < n → pltB (el cs q j) (el cs q i) = false) : ∀ m, m ≤ n → ahd cs (el cs q i) m = (sumq q m : Int)
  | 0, _ => rfl
  | m + 1, h => by
    show ahd cs (el cs q i) m + aheadOf (cat cs (m : Int)) (lastD (el cs q i) (m : Int)) = ((sumq q m + q m : Nat) : Int)
    rw [ahd_sum S hi hm m (by omega), ahead_q hst S hi hm (by omega)]
    simp
end
theorem told_succ (cs : List (Int × Int)) (hs : List (Int × Int)) (k : Nat) : toldD cs (k + 1) hs = toldD cs k hs ++ [hd0 (fwdN cs k hs)] := by
  simp [toldD, List.range_succ]
def qk (cs : List (Int × Int)) (hs : List (Int × Int)) (k j : Nat) : Nat := ((toldD cs k hs).map Prod.snd).count (j : Int)
theorem qk_zero (cs hs : List (Int × Int)) : qk cs hs 0 = fun _ => 0 := by
  funext j; simp [qk, toldD]
theorem qk_succ {cs hs : List (Int × Int)} {k i : Nat} (h : (hd0 (fwdN cs k hs)).2 = (i : Int)) : qk cs hs (k + 1) = bump (qk cs hs k) i := by
  funext j
  unfold qk bump
  rw [told_succ, List.map_append, List.count_append]
  congr 1
  simp only [List.map_cons, List.map_nil, h, List.count_singleton]
  by_cases e : j = i
  · simp [e]
  · have : ¬ ((i : Int) = (j : Int)) := by omega
    simp [e, this]
structure HeadF (cs : List (Int × Int)) (n : Nat) (q : Nat → Nat) (hs : List (Int × Int)) (i : Nat) : Prop where
  lt : i < n
  top : hs[0]? = some (el cs q i)
  min : ∀ j, j < n → pltB (el cs q j) (el cs q i) = false
section
variable {cs : List (Int × Int)} {n : Nat} (hst : ∀ j : Nat, 0 < (cat cs (j : Int)).2) (hn : 0 < n) {hs : List (Int × Int)} (S0 : StF cs n (fun _ => 0) hs 0)
include hst hn S0
theorem chain : ∀ k, StF cs n (qk cs hs k) (fwdN cs k hs) k
  | 0 => by rw [qk_zero]; exact S0
  | k + 1 => by
    have S := chain k
    obtain ⟨i, hi, h0, hm⟩ := S.head hn
    have e : qk cs hs (k + 1) = bump (qk cs hs k) i := qk_succ (by rw [hd0_eq h0]; rfl)
    rw [e]
    exact S.step hst hi h0 hm
theorem chain_head (k : Nat) : ∃ i, HeadF cs n (qk cs hs k) (fwdN cs k hs) i ∧ qk cs hs (k + 1) = bump (qk cs hs k) i ∧ hd0 (fwdN cs k hs) = el cs (qk cs hs k) i := by
  have S := chain hst hn S0 k
  obtain ⟨i, hi, h0, hm⟩ := S.head hn
  exact ⟨i, ⟨hi, h0, hm⟩, qk_succ (by rw [hd0_eq h0]; rfl), hd0_eq h0⟩
theorem told_facts {b : Nat} (k : Nat) (d : Int × Int) (h : (toldD cs b hs)[k]? = some d) : (0 ≤ d.2 ∧ d.2 < (n : Int)) ∧ (cat cs d.2).1 ≤ d.1 ∧ (d.1 - (cat cs d.2).1) % (cat cs d.2).2 = 0 ∧ ahd cs d n = (k : Int) := by
  have hd : d = hd0 (fwdN cs k hs) := by
    unfold toldD at h
    rw [List.getElem?_map] at h
    obtain ⟨x, hx, e⟩ := Option.map_eq_some_iff.mp h
    have := List.getElem?_eq_some_iff.mp hx
    obtain ⟨h1, h2⟩ := this
    rw [List.getElem_range] at h2
    rw [← e, h2]
  obtain ⟨i, H, _, e⟩ := chain_head hst hn S0 k
  have S := chain hst hn S0 k
  rw [e] at hd
  subst hd
  have hi := H.lt
  refine ⟨⟨?_, ?_⟩, ?_, ?_, ?_⟩
  · show 0 ≤ (i : Int); omega
  · show (i : Int) < (n : Int); omega
  · show (cat cs (i : Int)).1 ≤ (cat cs (i : Int)).1 + (cat cs (i : Int)).2 * (qk cs hs k i : Int)
    have : 0 ≤ (cat cs (i : Int)).2 * (qk cs hs k i : Int) := Int.mul_nonneg (Int.le_of_lt (hst i)) (by omega)
    omega
  · show ((cat cs (i : Int)).1 + (cat cs (i : Int)).2 * (qk cs hs k i : Int) - (cat cs (i : Int)).1) % (cat cs (i : Int)).2 = 0
    rw [Int.add_comm, Int.add_sub_cancel]
    exact Int.mul_emod_right _ _
  · rw [ahd_sum hst S H.lt H.min n (Nat.le_refl _), S.sum]
/-- backwards -/
theorem back_chain {b : Nat} {T : List (Int × Int)} (hT : T.Perm (confB cs n (qk cs hs b))) (HT : HeapFrom pgtB 0 T) : ∀ m k, m + k = b → (bwdN cs m T).Perm (confB cs n (qk cs hs k)) ∧ HeapFrom pgtB 0 (bwdN cs m T) ∧ toldD cs k hs ++ (btoldD cs m T).reverse = toldD cs b hs
  | 0, k, h => by
    have : k = b := by omega
    subst this
    exact ⟨hT, HT, by simp [btoldD]⟩
  | m + 1, k, h => by
    obtain ⟨P, H, B⟩ := back_chain hT HT m (k + 1) (by omega)
    obtain ⟨i, Hd, eq, e⟩ := chain_head hst hn S0 k
    have S := chain hst hn S0 k
    rw [eq] at P
    have hmem : el cs (qk cs hs k) i ∈ bwdN cs m T := P.mem_iff.mpr (List.mem_flatMap.mpr ⟨i, List.mem_range.mpr Hd.lt, by
      unfold cfB
      rw [if_pos (by simp [bump]), elB_bump]
      exact .head _⟩)
    have htop : (bwdN cs m T)[0]? = some (el cs (qk cs hs k) i) := top_is pgtB_ord H hmem (fun d hd hne => by
      obtain ⟨j, hj, hd2⟩ := List.mem_flatMap.mp (P.mem_iff.mp hd)
      unfold cfB at hd2
      split at hd2
      · rename_i hq
        have ed := List.mem_singleton.mp hd2
        by_cases q : j = i
        · subst q; rw [elB_bump] at ed; exact absurd ed hne
        · rw [elB_keep q] at ed
          rw [ed]
          exact S.low j (List.mem_range.mp hj) (by simpa [bump, q] using hq) i Hd.lt
      · cases hd2)
    have hbt : btoldD cs (m + 1) T = btoldD cs m T ++ [el cs (qk cs hs k) i] := by
      show btoldD cs m T ++ (match (bwdN cs m T)[0]? with | some d => [d] | none => []) = _
      rw [htop]
    have hbw : bwdN cs (m + 1) T = if (el cs (qk cs hs k) i).1 = (cat cs (i : Int)).1 then hpop pgtB (bwdN cs m T) else sup pgtB ((bwdN cs m T).set 0 (elB cs (qk cs hs k) i)) 0 := by
      show bwd cs (bwdN cs m T) = _
      unfold bwd
      rw [htop]
      rfl
    have pu : (cfB cs (qk cs hs k) i ++ confB cs n (bump (qk cs hs k) i)).Perm (cfB cs (bump (qk cs hs k) i) i ++ confB cs n (qk cs hs k)) := flat_upd (fun j hj => by unfold cfB; rw [elB_keep hj]; simp [bump, hj]) n Hd.lt
    have ecf : cfB cs (bump (qk cs hs k) i) i = [el cs (qk cs hs k) i] := by
      unfold cfB
      rw [if_pos (by simp [bump]), elB_bump]
    rw [ecf] at pu
    have hz : (el cs (qk cs hs k) i).1 = (cat cs (i : Int)).1 ↔ qk cs hs k i = 0 := by
      have s := hst i
      simp only [el]
      constructor
      · intro q
        have : (cat cs (i : Int)).2 * (qk cs hs k i : Int) = 0 := by omega
        rcases Int.mul_eq_zero.mp this with r | r
        · omega
        · omega
      · intro q; rw [q]; simp
    refine ⟨?_, ?_, ?_⟩
    · rw [hbw]
      by_cases q : qk cs hs k i = 0
      · rw [if_pos (hz.mpr q)]
        have e0 : cfB cs (qk cs hs k) i = [] := by unfold cfB; rw [if_neg (by omega)]
        rw [e0] at pu
        exact ((hpop_facts pgtB_ord H htop).1.trans (P.trans pu)).cons_inv
      · rw [if_neg (fun r => q (hz.mp r))]
        have e0 : cfB cs (qk cs hs k) i = [elB cs (qk cs hs k) i] := by unfold cfB; rw [if_pos (by omega)]
        rw [e0] at pu
        refine (sup_perm pgtB _ 0).trans ?_
        exact ((set_head_perm htop).trans ((P.cons _).trans pu)).cons_inv
    · rw [hbw]
      split
      · exact (hpop_facts pgtB_ord H htop).2
      · exact sup_heap pgtB_ord (heap_set H _)
    · rw [hbt, List.reverse_append, ← B, told_succ, e]
      simp
end
theorem cat_pos {cs : List (Int × Int)} (h : ∀ d ∈ cs, 0 < d.2) (j : Nat) : 0 < (cat cs (j : Int)).2 := by
  unfold cat
  rw [List.getD_eq_getElem?_getD]
  cases e : cs[(j : Int).toNat]? with
  | none => simp
  | some d => exact h d (List.mem_of_getElem? e)
theorem conf_in {cs : List (Int × Int)} {n : Nat} {q : Nat → Nat} {l : List (Int × Int)} (p : l.Perm (conf cs n q)) : ∀ d ∈ l, 0 ≤ d.2 ∧ d.2 < (n : Int) := fun d hd => by
  obtain ⟨i, hi, e⟩ := List.mem_map.mp (p.mem_iff.mp hd)
  have := List.mem_range.mp hi
  rw [← e]
  show 0 ≤ (i : Int) ∧ (i : Int) < (n : Int)
  omega
theorem confB_in {cs : List (Int × Int)} {n : Nat} {q : Nat → Nat} {l : List (Int × Int)} (p : l.Perm (confB cs n q)) : ∀ d ∈ l, 0 ≤ d.2 ∧ d.2 < (n : Int) := fun d hd => by
  obtain ⟨i, hi, e⟩ := List.mem_flatMap.mp (p.mem_iff.mp hd)
  have := List.mem_range.mp hi
  unfold cfB at e
  split at e
  · rw [List.mem_singleton.mp e]
    show 0 ≤ (i : Int) ∧ (i : Int) < (n : Int)
    omega
  · cases e
theorem confB_filter {cs : List (Int × Int)} (hst : ∀ j : Nat, 0 < (cat cs (j : Int)).2) (q : Nat → Nat) : ∀ n, ((conf cs n q).map (backD cs)).filter (keepD cs) = confB cs n q
  | 0 => rfl
  | n + 1 => by
    have ih := confB_filter hst q n
    unfold conf confB at ih ⊢
    rw [List.range_succ, List.map_append, List.map_append, List.filter_append, ih, List.flatMap_append]
    congr 1
    simp only [List.map_cons, List.map_nil, List.flatMap_cons, List.flatMap_nil, List.append_nil]
    have eb : backD cs (el cs q n) = elB cs q n := rfl
    rw [eb]
    have s := hst n
    have ek : keepD cs (elB cs q n) = decide (0 < q n) := by
      show decide ((cat cs (n : Int)).1 ≤ (cat cs (n : Int)).1 + (cat cs (n : Int)).2 * (q n : Int) - (cat cs (n : Int)).2) = _
      apply decide_eq_decide.mpr
      constructor
      · intro h
        apply Nat.pos_of_ne_zero
        intro z
        rw [z] at h
        simp at h
        omega
      · intro h
        obtain ⟨r, hr⟩ : ∃ r, q n = r + 1 := ⟨q n - 1, by omega⟩
        rw [hr, Int.natCast_add, Int.mul_add]
        have : 0 ≤ (cat cs (n : Int)).2 * (r : Int) := Int.mul_nonneg (Int.le_of_lt s) (by omega)
        simp
        omega
    unfold cfB
    by_cases h : 0 < q n
    · rw [if_pos h, List.filter_cons_of_pos (by rw [ek]; simp [h])]; rfl
    · rw [if_neg h, List.filter_cons_of_neg (by rw [ek]; simp [h])]; rfl
theorem sumq_pos {q : Nat → Nat} : ∀ {m : Nat}, 0 < sumq q m → ∃ j, j < m ∧ 0 < q j
  | 0, h => absurd h (by simp [sumq])
  | m + 1, h => by
    by_cases e : 0 < q m
    · exact ⟨m, by omega, e⟩
    · have h' : 0 < sumq q m := by
        have : sumq q (m + 1) = sumq q m + q m := rfl
        omega
      obtain ⟨j, h1, h2⟩ := sumq_pos h'
      exact ⟨j, by omega, h2⟩
theorem und_facts {cs : List (Int × Int)} {n : Nat} {q : Nat → Nat} {H : List (Int × Int)} {k : Nat} (S : StF cs n q H k) (hn : 0 < n) : hd0 (sup pltB (H.set 0 ((hd0 H).1 - 1, -1)) 0) = ((hd0 H).1 - 1, -1) ∧ (undD H).Perm (conf cs n q) := by
  obtain ⟨i, hi, h0, hm⟩ := S.head hn
  have hx : ∀ b ∈ H, pltB ((el cs q i).1 - 1, -1) b = true := fun b hb => by
    obtain ⟨j, hj, e⟩ := List.mem_map.mp (S.perm.mem_iff.mp hb)
    have a := pltB_not.mp (hm j (List.mem_range.mp hj))
    rw [e] at a
    refine pltB_iff.mpr (.inl ?_)
    show (el cs q i).1 - 1 < b.1
    omega
  obtain ⟨a, p, _⟩ := odd_top pltB_ord S.heap h0 hx
  unfold undD
  rw [hd0_eq h0]
  exact ⟨hd0_eq a, p.trans S.perm⟩
theorem ovr_facts {T : List (Int × Int)} (HT : HeapFrom pgtB 0 T) (hl : 0 < T.length) : hd0 (sup pgtB (T.set 0 ((hd0 T).1 + 1, -1)) 0) = ((hd0 T).1 + 1, -1) ∧ (ovrD T).Perm T ∧ HeapFrom pgtB 0 (ovrD T) := by
  have h0 : T[0]? = some T[0] := List.getElem?_eq_getElem hl
  generalize T[0] = d at h0
  have hx : ∀ b ∈ T, pgtB (d.1 + 1, -1) b = true := fun b hb => by
    obtain ⟨k, hk⟩ := List.getElem?_of_mem hb
    have a : pltB d b = false := heap_top pgtB_ord HT h0 k b hk
    have a := pltB_not.mp a
    show pltB b (d.1 + 1, -1) = true
    refine pltB_iff.mpr (.inl ?_)
    show b.1 < d.1 + 1
    omega
  obtain ⟨a, p, h⟩ := odd_top pgtB_ord HT h0 hx
  unfold ovrD
  rw [hd0_eq h0]
  exact ⟨hd0_eq a, p, h⟩
theorem plaw0 {cs : List (Int × Int)} {n b : Nat} (hst : ∀ j : Nat, 0 < (cat cs (j : Int)).2) (hn : 0 < n) (hb : 0 < b) : PLaw cs n b := by
  have e0 : firstsD cs n = conf cs n (fun _ => 0) := by
    unfold firstsD conf
    apply List.map_congr_left
    intro j _
    simp [el]
  have p0 : (hfy pltB (firstsD cs n)).Perm (conf cs n (fun _ => 0)) := by
    refine (hfy_perm pltB _).trans ?_
    rw [e0]
  have S0 : StF cs n (fun _ => 0) (hfy pltB (firstsD cs n)) 0 := ⟨p0, hfy_heap pltB_ord _, fun j _ h => absurd h (by omega), sumq_zero n⟩
  have cl : ∀ q, (conf cs n q).length = n := fun q => by simp [conf]
  have SB := chain hst hn S0 b
  have U := und_facts SB hn
  have pR : (((undD (fwdN cs b (hfy pltB (firstsD cs n)))).map (backD cs)).filter (keepD cs)).Perm (confB cs n (qk cs (hfy pltB (firstsD cs n)) b)) := by
    rw [← confB_filter hst]
    exact (U.2.map _).filter _
  have posB : 0 < (confB cs n (qk cs (hfy pltB (firstsD cs n)) b)).length := by
    obtain ⟨j, hj, hq⟩ := sumq_pos (q := qk cs (hfy pltB (firstsD cs n)) b) (m := n) (by rw [SB.sum]; exact hb)
    refine List.length_pos_of_mem (a := elB cs (qk cs (hfy pltB (firstsD cs n)) b) j) (List.mem_flatMap.mpr ⟨j, List.mem_range.mpr hj, ?_⟩)
    unfold cfB
    rw [if_pos hq]
    exact .head _
  have lU := U.2.length_eq.trans (cl _)
  have lenR : (((undD (fwdN cs b (hfy pltB (firstsD cs n)))).map (backD cs)).filter (keepD cs)).length ≤ n := by
    refine Nat.le_trans (List.length_filter_le _ _) ?_
    rw [List.length_map, lU]
    exact Nat.le_refl _
  have pT := (hfy_perm pgtB (((undD (fwdN cs b (hfy pltB (firstsD cs n)))).map (backD cs)).filter (keepD cs)))
  have O := ovr_facts (hfy_heap pgtB_ord (((undD (fwdN cs b (hfy pltB (firstsD cs n)))).map (backD cs)).filter (keepD cs))) (by rw [pT.length_eq, pR.length_eq]; exact posB)
  have pO := O.2.1.trans (pT.trans pR)
  have B := back_chain hst hn S0 pO O.2.2 b 0 (by omega)
  exact {
    len0 := p0.length_eq.trans (cl _)
    in0 := conf_in p0
    len1 := SB.perm.length_eq.trans (cl _)
    und := U.1
    len2 := lU
    in2 := conf_in U.2
    pos3 := by rw [pR.length_eq]; exact posB
    len3 := lenR
    ovr := O.1
    len4 := by rw [O.2.1.length_eq, pT.length_eq]; exact lenR
    in4 := confB_in pO
    told := fun k d h => told_facts hst hn S0 k d h
    next := U.2
    back := B.2.2
    empty := by
      have h := B.1
      rw [qk_zero] at h
      have : confB cs n (fun _ => 0) = [] := by simp [confB, cfB]
      rw [this] at h
      exact h.eq_nil }
theorem plaw (ns : List Int) (b : Nat) (hb : 0 < b) : PLaw (ctrsD ns) (ctrsD ns).length b :=
  plaw0 (cat_pos fun d h => (ctr_step h).1) (by simp [ctrsD]) hb
local macro_rules | `(tactic| walk_at "to call") => `(tactic| repeat' ((fail_if_success (with_reducible show wpAny _ _ (call (Value.ref _) _) _ _ _)); walk_at "st"))
local macro_rules | `(tactic| walk_at "to cmp") => `(tactic| repeat' ((fail_if_success (with_reducible show wpAny _ _ (compareOp .Eq (Value.ref _) (Value.ref _)) _ _ _)); walk_at "st"))
local macro_rules | `(tactic| walk_at "to slice") => `(tactic| repeat' ((fail_if_success (with_reducible show wpAny _ _ (subscriptTail _ (PySem.Expr.Slice _ _ _ _) (Value.ref _) _) _ _ _)); walk_at "st"))
local macro_rules | `(tactic| walk_at "execs cons") => `(tactic| ((try dsimp only); (with_reducible refine wpAny_execs_cons ?_); (try dsimp only)))
theorem le_k {a k m : Nat} (h : a = k) (h8 : k ≤ 8) (hm : 8 ≤ m) : a ≤ m := h ▸ Nat.le_trans h8 hm
theorem law_walk : PySem.Challenge.rw_mr0198_01.Holds := hd (by
  w_strict (
    k_go0
    (all_goals try k_fold)
    walk_at "to call"
    rename List Int => ns0
    rename IntsAre _ _ => hI0
    rename Heap.IsList _ _ _ => hL0
    have hn0 : ns0.length ≤ 63 := by omega
    k_dflt (refine counters_does _ (by k_asm) (by k_asm) (by k_asm) (by k_asm) (by k_asm) rfl hL0 hI0 (Nat.le_trans hn0 (by decide)) (by ktr_room) (by ktr_units) ?_)
    intro lc ks nc rest1 h1 tk1 hks hsub1 hkm hoff1 F1 N1
    have PL := plaw ns0 (ns0.length % 5 + 10) (Nat.succ_pos _)
    have hcl : ks.length = (ctrsD ns0).length := by rw [← hks, List.length_map]
    have hcl8 : ks.length ≤ 8 := by rw [hcl]; simp [ctrsD]; omega
    have hk1000 : ks.length ≤ 1000 := Nat.le_trans hcl8 (by decide)
    rw [← hcl, ← hks] at PL
    generalize hbeq : ns0.length % 5 + 10 = b at PL
    have hb100 : b ≤ 100 := by clear hk1000 hcl8 hcl; omega
    have hbI : ((ns0.length : Int) % 5 + 10) = (b : Int) := by rw [← hbeq]; rfl
    walk_at "to call"
    rename Fr _ _ _ _ => F2
    rename News _ _ _ _ => N2
    k_dflt (refine firsts_does _ (by k_asm) F2 (by k_asm) N2 (by k_asm) rfl (.head _) (has_tail hkm) hk1000 (by ktr_room) (by ktr_units) ?_)
    intro lh es0 nh rest2 h2 tk2 hes0 htk2 hsub2 hem hoff2 F3 N3
    have hlen0 : es0.length = ks.length := map_len hes0
    walk_at "to call"
    rename Fr _ _ _ _ => F4
    rename News _ _ _ _ => N4
    refine wpAny_with_toks (n := tk2) (by first | assumption | exact Nat.le_refl _ | (dsimp only; omega)) ?_
    k_dflt (refine heapify_does _ (by k_asm) F4 (by k_asm) N4 (by k_asm) rfl hoff2 hem (le_k hlen0 hcl8 (by decide)) (by ktr_room) (by ktr_units) ?_)
    intro h3 tk3 F5 N5 hT3
    dsimp only at hT3
    have hem1 : ∀ e ∈ hfy En.lt es0, (e.t, e.obj) ∈ rest2 := fun e he => hem e ((hfy_perm En.lt es0).mem_iff.mp he)
    have hd1 : (hfy En.lt es0).map En.d = hfy pltB (firstsD (ks.map En.d) ks.length) := by rw [hfy_map en_lt_d, hes0]
    have hlen1 : (hfy En.lt es0).length = ks.length := by rw [(hfy_perm En.lt es0).length_eq, hlen0]
    have hin1 : ∀ e ∈ hfy En.lt es0, 0 ≤ e.y ∧ e.y < (ks.length : Int) := fun e he => PL.in0 e.d (hd1 ▸ List.mem_map_of_mem he)
    have hpos1 : 0 < ks.length := by rw [hcl]; simp [ctrsD]
    have hV1 : ∀ e ∈ hfy En.lt es0, (@LT.lt Nat _ 0 e.v) ∧ (@LT.lt Nat _ e.v tk2) := fun e he => htk2 e ((hfy_perm En.lt es0).mem_iff.mp he)
    walk_at "to call"
    rename Fr _ _ _ _ => F6
    rename News _ _ _ _ => N6
    refine wpAny_with_toks (n := tk2) (by first | assumption | exact Nat.le_refl _ | (dsimp only; omega)) ?_
    rw [hbI]
    k_dflt (refine there_does _ (fun v => (@LT.lt Nat _ 0 v) ∧ (@LT.lt Nat _ v tk2)) (by k_asm) F6 (by k_asm) N6 (by k_asm) rfl hoff2 (hsub2 _ (.head _)) (fun e he => hsub2 _ (.tail _ (hkm e he))) hk1000 hem1 (le_k hlen1 hcl8 (by decide)) (hlen1 ▸ hpos1) hin1 hV1 hb100 (by ktr_room) (by ktr_units) ?_)
    intro lt ts nt es2 rest3 h4 tk4 hts hes2 hin2 hV2 hsub3 htm hem2 hoff3 hoffT F7 N7 hT4
    dsimp only at hT4
    rw [hd1] at hts hes2
    have hlen2 : es2.length = ks.length := by have h9 := congrArg List.length hes2; rw [List.length_map, PL.len1] at h9; exact h9
    have hoffU : ∀ p ∈ (lt, listOf (vals ts).toArray nt) :: rest3, p.1 ≠ lh := List.forall_mem_cons.mpr ⟨fun q => hoffT _ (.head _) q.symm, hoff3⟩
    walk_at "to call"
    rename Fr _ _ _ _ => F8
    rename News _ _ _ _ => N8
    refine wpAny_with_toks (n := tk2) (by first | assumption | exact Nat.le_refl _ | (dsimp only; omega)) ?_
    k_dflt (refine under_does _ (by k_asm) F8 (by k_asm) (news_mv2 N8) (by k_asm) rfl hoffU (has_tail hem2) (le_k hlen2 hcl8 (by decide)) (hlen2 ▸ hpos1) (hes2 ▸ PL.und) (by ktr_room) (by ktr_units) ?_)
    intro es3 rest4 h5 tk5 hes3 hsub4 hem3 hoff4 F9 N9 hT5
    dsimp only at hT5
    rw [hes2] at hes3
    have hlen3 : es3.length = ks.length := by have h9 := congrArg List.length hes3; rw [List.length_map, PL.len2] at h9; exact h9
    have hin3 : ∀ e ∈ es3, 0 ≤ e.y ∧ e.y < (ks.length : Int) := fun e he => PL.in2 e.d (hes3 ▸ List.mem_map_of_mem he)
    have hup4 : ∀ p ∈ rest2, p ∈ rest4 := fun p hp => hsub4 _ (.tail _ (hsub3 p hp))
    have hlc4 : (lc, listOf (vals ks).toArray nc) ∈ rest4 := hup4 _ (hsub2 _ (.head _))
    have hkm4 : ∀ e ∈ ks, (e.t, e.obj) ∈ rest4 := fun e he => hup4 _ (hsub2 _ (.tail _ (hkm e he)))
    have hlt4 : (lt, listOf (vals ts).toArray nt) ∈ rest4 := hsub4 _ (.head _)
    have htm4 : ∀ e ∈ ts, (e.t, e.obj) ∈ rest4 := fun e he => hsub4 _ (.tail _ (htm e he))
    walk_at "to call"
    rename Fr _ _ _ _ => F10
    rename News _ _ _ _ => N10
    refine wpAny_with_toks (n := tk2) (by first | assumption | exact Nat.le_refl _ | (dsimp only; omega)) ?_
    k_dflt (refine stepsback_does _ (by k_asm) F10 (by k_asm) N10 (by k_asm) rfl (.tail _ hlc4) (has_tail hkm4) hk1000 (.head _) (has_tail hem3) (le_k hlen3 hcl8 (by decide)) hin3 (by ktr_room) (by ktr_units) ?_)
    intro lr rs0 nr rest5 h6 tk6 hrs0 hsub5 hrm hoff5 F11 N11 hT6
    dsimp only at hT6
    rw [hes3] at hrs0
    have hlenr : rs0.length ≤ ks.length := by have h9 := congrArg List.length hrs0; rw [List.length_map] at h9; rw [h9]; exact PL.len3
    have hposr : 0 < rs0.length := by have h9 := congrArg List.length hrs0; rw [List.length_map] at h9; rw [h9]; exact PL.pos3
    walk_at "to call"
    rename Fr _ _ _ _ => F12
    rename News _ _ _ _ => N12
    refine wpAny_with_toks (n := tk2) (by first | assumption | exact Nat.le_refl _ | (dsimp only; omega)) ?_
    k_dflt (refine heapifyM_does _ (by k_asm) F12 (by k_asm) N12 (by k_asm) rfl hoff5 hrm (Nat.le_trans hlenr hk1000) (by ktr_room) (by ktr_units) ?_)
    intro h7 tk7 F13 N13 hT7
    dsimp only at hT7
    have hrm1 : ∀ e ∈ hfy En.gt rs0, (e.t, e.obj) ∈ rest5 := fun e he => hrm e ((hfy_perm En.gt rs0).mem_iff.mp he)
    have hrd1 : (hfy En.gt rs0).map En.d = hfy pgtB (((undD (fwdN (ks.map En.d) b (hfy pltB (firstsD (ks.map En.d) ks.length)))).map (backD (ks.map En.d))).filter (keepD (ks.map En.d))) := by rw [hfy_map en_gt_d, hrs0]
    have hrl1 : (hfy En.gt rs0).length = rs0.length := (hfy_perm En.gt rs0).length_eq
    walk_at "to call"
    rename Fr _ _ _ _ => F14
    rename News _ _ _ _ => N14
    refine wpAny_with_toks (n := tk2) (by first | assumption | exact Nat.le_refl _ | (dsimp only; omega)) ?_
    k_dflt (refine over_does _ (by k_asm) F14 (by k_asm) N14 (by k_asm) rfl hoff5 hrm1 (hrl1 ▸ Nat.le_trans hlenr hk1000) (hrl1 ▸ hposr) (hrd1 ▸ PL.ovr) (by ktr_room) (by ktr_units) ?_)
    intro rs2 rest6 h8 tk8 hrs2 hsub6 hrm2 hoff6 F15 N15 hT8
    dsimp only at hT8
    rw [hrd1] at hrs2
    have hrl2 : rs2.length ≤ ks.length := by have h9 := congrArg List.length hrs2; rw [List.length_map] at h9; rw [h9]; exact PL.len4
    have hin4 : ∀ e ∈ rs2, 0 ≤ e.y ∧ e.y < (ks.length : Int) := fun e he => PL.in4 e.d (hrs2 ▸ List.mem_map_of_mem he)
    have hup6 : ∀ p ∈ (lh, listOf (vals es3).toArray nh) :: rest4, p ∈ rest6 := fun p hp => hsub6 _ (hsub5 p hp)
    walk_at "to call"
    rename Fr _ _ _ _ => F16
    rename News _ _ _ _ => N16
    refine wpAny_with_toks (n := tk2) (by first | assumption | exact Nat.le_refl _ | (dsimp only; omega)) ?_
    rw [hbI]
    k_dflt (refine back_does _ (by k_asm) F16 (by k_asm) N16 (by k_asm) rfl hoff6 (hup6 _ (.tail _ hlc4)) (fun e he => hup6 _ (.tail _ (hkm4 e he))) hk1000 hrm2 (Nat.le_trans hrl2 hk1000) hin4 hb100 (by ktr_room) (by ktr_units) ?_)
    intro lb bs nb rs3 nr3 rest7 h9 tk9 hbs hrs3 hsub7 hbm hrm3 hoff7 hoffB F17 N17 hT9
    dsimp only at hT9
    rw [hrs2] at hbs hrs3
    walk_at "to call"
    rename Fr _ _ _ _ => F18
    rename News _ _ _ _ => N18
    have hup7 : ∀ p ∈ rest4, p ∈ rest7 := fun p hp => hsub7 _ (hup6 _ (.tail _ hp))
    have hkd : ∀ e ∈ ks, 0 < e.y ∧ e.y ≤ 10 := fun e he => ctr_step (hks ▸ List.mem_map_of_mem (f := En.d) he)
    have htl : ∀ (k : Nat) (e : En), ts[k]? = some e → (0 ≤ e.y ∧ e.y < (ks.length : Int)) ∧ (cat (ks.map En.d) e.y).1 ≤ e.x ∧ (e.x - (cat (ks.map En.d) e.y).1) % (cat (ks.map En.d) e.y).2 = 0 ∧ ahd (ks.map En.d) e.d ks.length = (k : Int) := fun k e he => PL.told k e.d (by rw [← hts, List.getElem?_map, he]; rfl)
    have hti : ∀ e ∈ ts, 0 ≤ e.y ∧ e.y < (ks.length : Int) := fun e he => by
      obtain ⟨k, hk⟩ := List.getElem?_of_mem he
      exact (htl k e hk).1
    have htlen : ts.length ≤ 100 := by have h9 := congrArg List.length hts; rw [List.length_map, told_len] at h9; rw [h9]; exact hb100
    refine wpAny_with_toks (n := tk2) (by first | assumption | exact Nat.le_refl _ | (dsimp only; omega)) ?_
    k_dflt (refine eachInTurn_does _ (by k_asm) F18 (by k_asm) N18 (by k_asm) rfl (.tail _ (.tail _ (hup7 _ hlc4))) (has_tail (has_tail fun e he => hup7 _ (hkm4 e he))) hk1000 hkd (.tail _ (.tail _ (hup7 _ hlt4))) (has_tail (has_tail fun e he => hup7 _ (htm4 e he))) (by first | exact htlen | exact Nat.le_trans htlen (by decide)) hti (fun k e he => (htl k e he).2) (by ktr_room) (by ktr_units) ?_)
    intro h10 tk10 F19 N19 hT10
    dsimp only at hT10
    walk_at "to call"
    have hnd3 : (es3.map En.d).Nodup := by rw [hes3]; exact PL.next.nodup_iff.mpr (next_nodup _ _ _)
    have hle3 : 3 ≤ ks.length := by rw [hcl]; simp [ctrsD]
    have hlh7 : (lh, listOf (vals es3).toArray nh) ∈ rest7 := hsub7 _ (hup6 _ (.head _))
    have hem7 : ∀ e ∈ es3, (e.t, e.obj) ∈ rest7 := fun e he => hup7 _ (hem3 e he)
    k_dflt (refine sorted_en _ F19 N19 (.tail _ (.tail _ hlh7)) (has_tail (has_tail hem7)) (hlen3 ▸ Nat.le_trans (by decide) hle3) (Nat.lt_of_le_of_lt (le_k hlen3 hcl8 (Nat.le_refl _)) (by decide)) hnd3 ?_)
    intro ld es4 c4 h11 hp4 hs4 hD4 F20 N20
    walk_at "to call"
    rename Fr _ _ _ _ => F21
    rename News _ _ _ _ => N21
    refine wpAny_with_toks (n := tk2) (by first | assumption | exact Nat.le_refl _ | (dsimp only; omega)) ?_
    k_dflt (refine next_does _ (T₁ := tk2) (by k_asm) F21 (by k_asm) N21 (by k_asm) rfl (.tail _ (.tail _ (.tail _ (hup7 _ hlc4)))) (has_tail (has_tail (has_tail fun e he => hup7 _ (hkm4 e he)))) (Nat.le_trans hcl8 (by decide)) hkd (.tail _ (.tail _ (.tail _ (hup7 _ hlt4)))) (has_tail (has_tail (has_tail fun e he => hup7 _ (htm4 e he)))) (by first | exact htlen | exact Nat.le_trans htlen (by decide)) hV2 (by first | assumption | exact Nat.le_refl _ | (dsimp only; omega)) (by ktr_room) (by ktr_units) ?_)
    intro lx xs nx rest8 h12 tk12 hxs hsub8 hxm hoff8 F22 N22 hT12
    dsimp only at hT12
    have hty : ts.map En.y = (toldD (ks.map En.d) b (hfy pltB (firstsD (ks.map En.d) ks.length))).map Prod.snd := by rw [← hts, List.map_map]; rfl
    rw [hty] at hxs
    have hlenx : xs.length = ks.length := by
      have h9 := congrArg List.length hxs
      rw [List.length_map, ← PL.next.length_eq, PL.len2] at h9; exact h9
    have hndx : (xs.map En.d).Nodup := by rw [hxs]; exact next_nodup _ _ _
    walk_at "to call"
    rename Fr _ _ _ _ => F23
    rename News _ _ _ _ => N23
    k_dflt (refine sorted_en _ F23 N23 (.head _) (has_tail hxm) (hlenx ▸ Nat.le_trans (by decide) hle3) (Nat.lt_of_le_of_lt (le_k hlenx hcl8 (Nat.le_refl _)) (by decide)) hndx ?_)
    intro lf xs4 c5 h13 hp5 hs5 hD5 F24 N24
    have heq : es4.map En.d = xs4.map En.d := strict_uniq ((hp4.map _).trans (by rw [hes3]; exact PL.next.trans (by rw [← hxs]; exact (hp5.map _).symm))) hs4 hs5
    walk_at "to call"
    have hup8 : ∀ p ∈ rest7, p ∈ rest8 := fun p hp => hsub8 _ (.tail _ (.tail _ (.tail _ hp)))
    have hx4 : ∀ e ∈ xs4, (e.t, e.obj) ∈ rest8 := fun e he => hxm e (hp5.mem_iff.mp he)
    have he4 : ∀ e ∈ es4, (e.t, e.obj) ∈ rest8 := fun e he => hup8 _ (hem7 e (hp4.mem_iff.mp he))
    k_dflt (refine eq_ens N24 (.tail _ (.tail _ (hsub8 _ (.head _)))) (has_tail (has_tail he4)) (.head _) (has_tail (has_tail hx4)) (by ktr_units) heq ?_)
    walk_at "to slice"
    rename Fr _ _ _ _ => F25
    rename News _ _ _ _ => N25
    have hback : (bs.reverse).map En.d = ts.map En.d := by rw [List.map_reverse, hbs, hts]; exact PL.back
    have hbl : bs.length = ts.length := by have h9 := congrArg List.length hback; simpa using h9
    have hlb8 : (lb, listOf (vals bs).toArray nb) ∈ rest8 := hsub8 _ (.tail _ (.head _))
    k_dflt (refine krv_lit (its := (vals bs).toArray) (zs := vals bs.reverse) (by k_asm) (by k_asm) ⟨_, (N25 _ (.tail _ (.tail _ hlb8))).1, rfl, _, rfl⟩ (IsPart.int _ _) (by simp [vals]) ?_ (by with_unfolding_all rfl) (by kmk_pure) (by rw [sizeLine_eq]; simp [vals]; rw [hbl]; exact Nat.le_trans htlen (by decide)))
    intro lq h14 F26 N26 hD6
    walk_at "to cmp"
    have hbm8 : ∀ e ∈ bs.reverse, (e.t, e.obj) ∈ rest8 := fun e he => hup8 _ (hbm e (List.mem_reverse.mp he))
    rename News _ _ _ _ => N27
    k_dflt (refine eq_ens N27 (es := bs.reverse) (.head _) (has_tail (has_tail (has_tail hbm8))) (.tail _ (.tail _ (.tail _ (hup8 _ (hup7 _ hlt4))))) (has_tail (has_tail (has_tail fun e he => hup8 _ (hup7 _ (htm4 e he))))) (by ktr_units) hback ?_)
    walk_at "to cmp"
    rename News _ _ _ _ => N28
    have hr0 : rs3 = [] := by rw [PL.empty] at hrs3; exact List.map_eq_nil_iff.mp hrs3
    k_dflt (refine eq_ens N28 (es := rs3) (fs := []) (.tail _ (.tail _ (.tail _ (.tail _ (hsub8 _ (.tail _ (.tail _ (.head _)))))))) (by rw [hr0]; simp) (.head _) (by simp) (by ktr_units) (by rw [hr0]) ?_)
    k_steps
    ))
end Mine
theorem PySem.Challenge.cw_mr0198_01_holds : PySem.Challenge.rw_mr0198_01.Holds :=
  Mine.law_walk
