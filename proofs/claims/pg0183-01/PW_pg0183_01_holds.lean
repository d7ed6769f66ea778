import PyProof.Rows.All
import Wide.All
import OpenK.AllK
import Wide.FinOn
import Lean
import PySem.Challenge.RW_pg0183_01
open PySem PySem.W PyProof.Rows
set_option Elab.async false
namespace Mine
-- HD
section
open_top hd for PySem.Challenge.rw_pg0183_01
end
-- Base
section
noncomputable abbrev K0 (w : World) : Frag := hd.heap_39 w.params
noncomputable abbrev P0 : Program := hd.view_39
noncomputable abbrev l0 : List Str := looseW hd.view_39 [Str.ofString "insort_left", Str.ofString "bisect_left"]
noncomputable abbrev pr : Program := PySem.Challenge.rw_pg0183_01.row.prog
noncomputable def Tells (w : World) (f : Addr) (need : Nat) (vs : List Value) (news : List (Addr × Obj)) (R : Value → List (Addr × Obj) → Prop) : Prop :=
  ∀ (dp un : Nat) (gd : Option (List Code)) (cn : Str) (cs : Scope) (a : Addr) (ccd : Value) (cl : List (Str × Addr)) (outer : List Env) (A₀ : Around) (base h₀ : Heap) (L : Addr) (m : Str → Option Value) (s : Shared) (mean : ExcName → Option Value) (mg mb : Str → Option Value) (Q E : Value → Shared → Prop),
    Below A₀ base outer h₀ → Fr h₀ L s.heap m → (K0 w).In h₀ → News h₀ L s.heap news → Top P0 l0 mean mg mb h₀ → cs.kind = .function → dp + need < recursionLimit → un + 8 * need < cLine →
    (∀ v h' tk' news', R v news' → Fr h₀ L h' m → News h₀ L h' news' → Q v { s with heap := h', toks := tk' }) →
    wpAny (model pr w) (ktrTop dp un gd cn cs L a ccd cl outer) (call (.ref f) vs) Q E s
theorem tells_use {w : World} {f : Addr} {need : Nat} {vs : List Value} {news : List (Addr × Obj)} {R : Value → List (Addr × Obj) → Prop} (C : Tells w f need vs news R)
    {dp un : Nat} {gd : Option (List Code)} {cn : Str} {cs : Scope} {a : Addr} {ccd : Value} {cl : List (Str × Addr)} {outer : List Env} {A₀ : Around} {base h₀ : Heap} {L : Addr} {m : Str → Option Value} {s : Shared} {mean : ExcName → Option Value} {mg mb : Str → Option Value} {Q E : Value → Shared → Prop}
    (B : Below A₀ base outer h₀) (F : Fr h₀ L s.heap m) (X : (K0 w).In h₀) (N : News h₀ L s.heap news) (T : Top P0 l0 mean mg mb h₀) (hk : cs.kind = .function) (hd : dp + need < recursionLimit) (hu : un + 8 * need < cLine)
    (ret : ∀ v h' tk' news', R v news' → Fr h₀ L h' m → News h₀ L h' news' → Q v { s with heap := h', toks := tk' }) :
    wpAny (model pr w) (ktrTop dp un gd cn cs L a ccd cl outer) (call (.ref f) vs) Q E s :=
  C dp un gd cn cs a ccd cl outer A₀ base h₀ L m s mean mg mb Q E B F X N T hk hd hu ret
end
-- TupLt
section
open PySem.Calls
set_option maxHeartbeats 1000000
theorem rc_lt_int {prog : Program} {w : World} {A : Around} {E : Value → Shared → Prop} {s : Shared} {a b : Int} {t u : Tok} {Q : Value → Shared → Prop} (h : Q (.bool (decide (a < b))) s) :
    wpAny (model prog w) A (richCompare .Lt (.int a t) (.int b u)) Q E s := wpAny_lt_int h
theorem tuple_lt2 (l b : Addr) (x1 x2 y1 y2 : Int) (t1 t2 u1 u2 : Tok) (n n2 : Nat) (dd dd2 : Option Addr) (sl sl2 : Array (Option Value)) :
    Meets (Builtin.«tuple.__lt__» ⟨[.ref l, .ref b], []⟩)
      (fun A R s => s.heap.get? l = some { cls := .type "tuple", dict := dd, data := .seq #[.int x1 t1, .int x2 t2] n, slots := sl } ∧ s.heap.get? b = some { cls := .type "tuple", dict := dd2, data := .seq #[.int y1 u1, .int y2 u2] n2, slots := sl2 } ∧
        R (.ok (.ret (.bool (decide (x1 < y1 ∨ x1 = y1 ∧ x2 < y2))))) s) :=
  .of_wp fun prog w A R s h => by
    obtain ⟨hp, g, d, tk, os⟩ := s; obtain ⟨hl, hb, h⟩ := h
    have f2 := AutoSeq1.sub_tuple_tuple
    wp_walk using wpAny_loadPart' hl, wpAny_loadPart' hb
    refine wpAny_eqBool_int ?_
    by_cases e1 : x1 = y1
    · subst e1
      simp only [beq_self_eq_true, Bool.not_true, Bool.false_eq_true, if_false]
      wp_walk
      refine wpAny_eqBool_int ?_
      by_cases e2 : x2 = y2
      · subst e2
        simp only [beq_self_eq_true, Bool.not_true, Bool.false_eq_true, if_false]
        wp_walk
        refine ⟨.bool false, rfl, ?_⟩
        simpa using h
      · have e2' : (x2 == y2) = false := beq_eq_false_iff_ne.mpr e2
        simp only [e2', Bool.not_false, if_true]
        refine wpAny_bind (wpAny_rule (wpAny_bind (rc_lt_int ?_)))
        have h' : decide (x1 < x1 ∨ x1 = x1 ∧ x2 < y2) = decide (x2 < y2) := by simp
        rw [h'] at h
        exact wpAny_bind (wpAny_pure (wpAny_pure (wpAny_pure (wpAny_pure ⟨_, rfl, h⟩))))
    · have e1' : (x1 == y1) = false := beq_eq_false_iff_ne.mpr e1
      simp only [e1', Bool.not_false, if_true]
      refine wpAny_bind (wpAny_rule (wpAny_bind (rc_lt_int ?_)))
      have h' : decide (x1 < y1 ∨ x1 = y1 ∧ x2 < y2) = decide (x1 < y1) := by simp [e1]
      rw [h'] at h
      exact wpAny_bind (wpAny_pure (wpAny_pure (wpAny_pure (wpAny_pure ⟨_, rfl, h⟩))))
noncomputable def tupO (x y : Int) (t u : Tok) (n : Nat) : Obj := { cls := .type "tuple", data := .seq #[.int x t, .int y u] n }
noncomputable def lexlt (p q : Int × Int) : Bool := decide (p.1 < q.1 ∨ p.1 = q.1 ∧ p.2 < q.2)
noncomputable def TupAt (news : List (Addr × Obj)) (v : Value) (p : Int × Int) : Prop := ∃ a t u n, v = .ref a ∧ (a, tupO p.1 p.2 t u n) ∈ news
theorem lt_tup {prog : Program} {w : World} {A : Around} {E : Value → Shared → Prop} {s : Shared} {Q : Value → Shared → Prop} {h₀ : Heap} {L : Addr} {news rest : List (Addr × Obj)} {v v' : Value} {p q : Int × Int}
    (N : News h₀ L s.heap news) (hp : TupAt rest v p) (hq : TupAt rest v' q) (hs : ∀ z ∈ rest, z ∈ news) (hu : A.units < cLine) (h : Q (.bool (lexlt p q)) s) : wpAny (model prog w) A (compareOp .Lt v v') Q E s := by
  obtain ⟨a, t, u, n, rfl, ha⟩ := hp
  obtain ⟨b, t', u', n', rfl, hb⟩ := hq
  have ha' := (N _ (hs _ ha)).1
  have hb' := (N _ (hs _ hb)).1
  exact richCompare_meets_room (op := .Lt) ⟨_, ha', rfl⟩ ⟨_, hb', rfl⟩ F.slot_tuple_lt F.entry_tuple_lt (F.args_tuple_lt_2 _ _) (tuple_lt2 a b p.1 p.2 q.1 q.2 t u t' u' n n' none none #[] #[])
    ⟨ha', hb', show Value.bool (lexlt p q) ≠ Value.notImplemented ∧ Q (.bool (lexlt p q)) s from ⟨(fun x => nomatch x), h⟩⟩ hu
end
-- MyRules
section
section
variable {prog : Program} {w : World} {A : Around} {E : Value → Shared → Prop} {s : Shared} {h₀ : Heap} {L : Addr} {news rest : List (Addr × Obj)} {value slice : PySem.Expr} {a D : Addr} {l vs : List Value} {n : Nat} {k : Int} {t u : Tok}
theorem my_item {Q : Value → Shared → Prop} (N : News h₀ L s.heap news) (hm : (a, listOf l.toArray n) ∈ news) (h0 : 0 ≤ k) (h1 : k < l.length) (hfit : k < 2 ^ 63) (h : Q (l.getD k.toNat .none) s)
    (hs : subscripted slice false (.ref a) (.int k u) = operate [.ref a, .int k u] (getItem (.ref a) (.int k u)) := by with_unfolding_all rfl) (hg : ∀ r, letTemporaryGo value (.ref a) r = pure () := by intro _; with_unfolding_all rfl) :
    wpAny (model prog w) A (subscriptTail value slice (.ref a) (.int k u)) Q E s :=
  kim_list N hm rfl rfl h0 hfit (by rw [List.getD_eq_getElem?_getD, List.getElem?_eq_getElem (by omega)]; rfl) h hs hg
theorem my_extend {m : Str → Option Value} {b : Addr} {us : List Value} {k2 : Nat} {Q : Value → Shared → Prop} (F : Fr h₀ L s.heap m) (N : News h₀ L s.heap ((b, listOf us.toArray k2) :: (D, listOf vs.toArray n) :: rest)) (hne : us.length ≠ 0) (hb : b ≠ D) (hoff : ∀ p ∈ rest, p.1 ≠ D) (hz : vs.length + us.length < 2 ^ 20)
    (h : ∀ h', Fr h₀ L h' m → News h₀ L h' ((b, listOf us.toArray k2) :: (D, listOf (vs ++ us).toArray (n + 1)) :: rest) → Q .none { s with heap := h' }) :
    wpAny (model prog w) A (call (.builtin "list.extend") [.ref D, .ref b]) Q E s := by
  have e1 : vs.toArray.size = vs.length := by simp
  have e2 : us.toArray.size = us.length := by simp
  refine kl_extend F N (.head _) (by simp) (by simpa using hne) (Upd.tail hb (Upd.head hoff)) ?_ (by rw [PySem.sizeLine_eq]; simp; omega) (by rw [PySem.sizeLine_eq, e1, e2]; omega) h
  rw [e1, e2]
  unfold Builtin.List.listTooLong
  simp [PySem.sizeLine_eq]
  omega
theorem my_extendE {m : Str → Option Value} {b : Addr} {us : List Value} {ms : List Int} {k2 : Nat} {Q : Value → Shared → Prop} (F : Fr h₀ L s.heap m) (N : News h₀ L s.heap ((b, listOf us.toArray k2) :: (D, listOf vs.toArray n) :: rest)) (hu : IntsAre us ms) (hne : us.length ≠ 0) (hb : b ≠ D) (hoff : ∀ p ∈ rest, p.1 ≠ D) (hz : vs.length + us.length < 2 ^ 20)
    (h : ∀ us' h', IntsAre us' ms → Fr h₀ L h' m → News h₀ L h' ((b, listOf us'.toArray k2) :: (D, listOf (vs ++ us').toArray (n + 1)) :: rest) → Q .none { s with heap := h' }) :
    wpAny (model prog w) A (call (.builtin "list.extend") [.ref D, .ref b]) Q E s := my_extend F N hne hb hoff hz fun h' F' N' => h us h' hu F' N'
theorem my_set {m : Str → Option Value} {v : Value} {Q : Unit → Shared → Prop} (F : Fr h₀ L s.heap m) (N : News h₀ L s.heap ((D, listOf vs.toArray n) :: rest)) (hoff : ∀ p ∈ rest, p.1 ≠ D) (h0 : 0 ≤ k) (h1 : k < vs.length) (hfit : k < 2 ^ 63)
    (h : ∀ h', Fr h₀ L h' m → News h₀ L h' ((D, listOf (vs.set k.toNat v).toArray n) :: rest) → Q () { s with heap := h' }) :
    wpAny (model prog w) A (setItem (.ref D) (.int k t) v) Q E s := by
  have z := N (D, listOf vs.toArray n) (.head _)
  have hs : vs.toArray.size = vs.length := by simp
  refine ki_setAt z.1 h0 hfit (by rw [hs]; exact h1) (h _ (F.change (Heap.SameBut.update ..) z.2.1 z.2.2) (ki_turn (pre := []) _ N (fun _ h => nomatch h) hoff ?_ ?_))
  · show vs.toArray.setIfInBounds k.toNat v = (vs.set k.toNat v).toArray
    apply Array.toList_inj.mp
    simp
  · simp
end
theorem len_of_ne {p : List Value} (h : p.isEmpty = false) : 0 < p.length := by cases p with | nil => cases h | cons => simp
/-- the walk stops here -/
noncomputable def Stop (P : Prop) : Prop := P
theorem stop_out {P : Prop} (h : Stop P) : P := h
/-- two ways brought together -/
theorem cut {M : Model} {A : Around} {E : Value → Shared → Prop} {s : Shared} {α : Type} {t : Sem α} {Q : α → Shared → Prop} (Mid : α → Shared → Prop) (h : wpAny M A t Mid E s) (k : ∀ a s', Mid a s' → Q a s') : wpAny M A t Q E s := wpAny_mono h k fun _ _ x => x
/-- a while by a state, with an end of our own name -/
noncomputable def MyEnd {σ : Type} (h₀ : Heap) (L : Addr) (s : Shared) (Led : σ → List (Addr × Obj)) (ps : σ → List (Str × Value)) (Facts : σ → Prop) (stored : List Str) (m₀ : Str → Option Value) (P : σ → Prop) (μ : σ → Nat) (c : σ) (s₂ : Shared) : Prop :=
  KswEnd h₀ L s Led ps Facts stored m₀ P μ c s₂
noncomputable def MyPost {σ : Type} (h₀ : Heap) (L : Addr) (s : Shared) (Led : σ → List (Addr × Obj)) (ps : σ → List (Str × Value)) (Facts : σ → Prop) (stored : List Str) (m₀ : Str → Option Value) (P : σ → Prop) (μ : σ → Nat) (Q : Flow → Shared → Prop) (c : σ) (f : Flow) (s₂ : Shared) : Prop :=
  match f with
  | .ret v => Q (.ret v) s₂
  | .brk => Q .next s₂
  | _ => MyEnd h₀ L s Led ps Facts stored m₀ P μ c s₂
theorem my_end {σ : Type} {h₀ : Heap} {L : Addr} {s : Shared} {Led : σ → List (Addr × Obj)} {ps : σ → List (Str × Value)} {Facts : σ → Prop} {stored : List Str} {m₀ m' : Str → Option Value} {P : σ → Prop} {μ : σ → Nat} {c : σ} {h' : Heap} {tk : Nat} {news' : List (Addr × Obj)} (c' : σ)
    (F : Fr h₀ L h' m') (N : News h₀ L h' news') (hn : ∀ p ∈ Led c', p ∈ news') (hf : Facts c') (hk : ∀ p ∈ ps c', m' p.1 = some p.2) (hr : ∀ z, (∀ p ∈ ps c', z ≠ p.1) → stored.contains z = false → m' z = m₀ z) (hp : P c') (hm : μ c' < μ c) :
    MyEnd h₀ L s Led ps Facts stored m₀ P μ c { s with heap := h', toks := tk } := ksw_end c' F N hn hf hk hr hp hm
theorem my_while {prog : Program} {w : World} {A : Around} {E : Value → Shared → Prop} {Q : Flow → Shared → Prop} {s : Shared} {env : Env} {h₀ : Heap} {L : Addr} {σ : Type} {test : PySem.Expr} {body : List Stmt} {pos : Pos} {m₀ : Str → Option Value} (Led : σ → List (Addr × Obj)) (ps : σ → List (Str × Value)) (Facts : σ → Prop) (stored : List Str) (P : σ → Prop) (μ : σ → Nat) (c₀ : σ)
    (F : Fr h₀ L s.heap m₀) (N : News h₀ L s.heap (Led c₀)) (hf : Facts c₀) (hk : ∀ p ∈ ps c₀, m₀ p.1 = some p.2) (hp : P c₀)
    (turn : ∀ (c : σ) (u : Str → Option Value) h tk, Facts c → P c → Fr h₀ L h (kstB (fun z => if stored.contains z then u z else m₀ z) (ps c)) → News h₀ L h (Led c) →
      wpAny (model prog w) A (isTrue test env (eval test env)) (fun b s₂ =>
        if b = true then wpAny (model prog w) A (execs body env) (MyPost h₀ L s Led ps Facts stored m₀ P μ Q c) E s₂ else Q .next s₂) E { s with heap := h, toks := tk })
    (hE : PassesOwn (model prog w) A env E := by passes_own) :
    wpAny (model prog w) A (exec (.While test body [] pos) env) Q E s := by
  refine ksw_while Led ps Facts stored P μ c₀ F N hf hk hp (fun c u h tk h1 h2 h3 h4 => wpAny_mono (turn c u h tk h1 h2 h3 h4) (fun b s₂ hb => ?_) fun _ _ x => x) hE
  cases b with
  | false => exact hb
  | true =>
    simp only [if_true] at hb ⊢
    exact wpAny_mono hb (fun f s₃ q => by cases f <;> exact q) fun _ _ x => x
/-- the same, with one way out -/
noncomputable def MyOut {σ : Type} (h₀ : Heap) (L : Addr) (s : Shared) (Led : σ → List (Addr × Obj)) (ps : σ → List (Str × Value)) (stored : List Str) (m₀ : Str → Option Value) (X : σ → Prop) (s₂ : Shared) : Prop :=
  ∃ (c : σ) (h' : Heap) (tk : Nat) (m' : Str → Option Value) (news' : List (Addr × Obj)), s₂ = { s with heap := h', toks := tk } ∧ Fr h₀ L h' m' ∧ News h₀ L h' news' ∧ (∀ p ∈ Led c, p ∈ news') ∧ (∀ p ∈ ps c, m' p.1 = some p.2) ∧ (∀ z, (∀ p ∈ ps c, z ≠ p.1) → stored.contains z = false → m' z = m₀ z) ∧ X c
theorem my_out {σ : Type} {h₀ : Heap} {L : Addr} {s : Shared} {Led : σ → List (Addr × Obj)} {ps : σ → List (Str × Value)} {stored : List Str} {m₀ m' : Str → Option Value} {X : σ → Prop} {h' : Heap} {tk : Nat} {news' : List (Addr × Obj)} (c' : σ)
    (F : Fr h₀ L h' m') (N : News h₀ L h' news') (hn : ∀ p ∈ Led c', p ∈ news') (hk : ∀ p ∈ ps c', m' p.1 = some p.2) (hr : ∀ z, (∀ p ∈ ps c', z ≠ p.1) → stored.contains z = false → m' z = m₀ z) (hx : X c') :
    MyOut h₀ L s Led ps stored m₀ X { s with heap := h', toks := tk } := ⟨c', h', tk, m', news', rfl, F, N, hn, hk, hr, hx⟩
noncomputable def MyPostX {σ : Type} (h₀ : Heap) (L : Addr) (s : Shared) (Led : σ → List (Addr × Obj)) (ps : σ → List (Str × Value)) (Facts : σ → Prop) (stored : List Str) (m₀ : Str → Option Value) (P : σ → Prop) (μ : σ → Nat) (X : σ → Prop) (Q : Flow → Shared → Prop) (c : σ) (f : Flow) (s₂ : Shared) : Prop :=
  match f with
  | .ret v => Q (.ret v) s₂
  | .brk => MyOut h₀ L s Led ps stored m₀ X s₂
  | _ => MyEnd h₀ L s Led ps Facts stored m₀ P μ c s₂
theorem my_whileX {prog : Program} {w : World} {A : Around} {E : Value → Shared → Prop} {Q : Flow → Shared → Prop} {s : Shared} {env : Env} {h₀ : Heap} {L : Addr} {σ : Type} {test : PySem.Expr} {body : List Stmt} {pos : Pos} {m₀ : Str → Option Value} (Led : σ → List (Addr × Obj)) (ps : σ → List (Str × Value)) (Facts : σ → Prop) (stored : List Str) (P : σ → Prop) (μ : σ → Nat) (X : σ → Prop) (c₀ : σ)
    (F : Fr h₀ L s.heap m₀) (N : News h₀ L s.heap (Led c₀)) (hf : Facts c₀) (hk : ∀ p ∈ ps c₀, m₀ p.1 = some p.2) (hp : P c₀)
    (turn : ∀ (c : σ) (u : Str → Option Value) h tk, Facts c → P c → Fr h₀ L h (kstB (fun z => if stored.contains z then u z else m₀ z) (ps c)) → News h₀ L h (Led c) →
      wpAny (model prog w) A (isTrue test env (eval test env)) (fun b s₂ =>
        if b = true then wpAny (model prog w) A (execs body env) (MyPostX h₀ L s Led ps Facts stored m₀ P μ X Q c) E s₂ else MyOut h₀ L s Led ps stored m₀ X s₂) E { s with heap := h, toks := tk })
    (done : ∀ (c : σ) (u : Str → Option Value) h tk, X c → Fr h₀ L h (kstB (fun z => if stored.contains z then u z else m₀ z) (ps c)) → News h₀ L h (Led c) → Q .next { s with heap := h, toks := tk })
    (hE : PassesOwn (model prog w) A env E := by passes_own) :
    wpAny (model prog w) A (exec (.While test body [] pos) env) Q E s := by
  have fin : ∀ s₂, MyOut h₀ L s Led ps stored m₀ X s₂ → Q .next s₂ := by
    rintro s₂ ⟨c, h', tk, m', news', rfl, F', N', hn, hk', hr, hx⟩
    exact done c m' h' tk hx (ksw_fr hk' hr F') fun p hp => N' p (hn p hp)
  refine my_while Led ps Facts stored P μ c₀ F N hf hk hp (fun c u h tk h1 h2 h3 h4 => wpAny_mono (turn c u h tk h1 h2 h3 h4) (fun b s₂ hb => ?_) fun _ _ x => x) hE
  cases b with
  | false =>
    simp only [Bool.false_eq_true, if_false] at hb ⊢
    exact fin _ hb
  | true =>
    simp only [if_true] at hb ⊢
    exact wpAny_mono hb (fun f s₃ q => by
      cases f with
      | brk => exact fin _ q
      | ret v => exact q
      | next => exact q
      | cont => exact q) fun _ _ x => x
theorem cutK {M : Model} {A : Around} {E : Value → Shared → Prop} {s : Shared} {h₀ : Heap} {L : Addr} {σ : Type} {t : Sem Flow} {Q : Flow → Shared → Prop} {m : Str → Option Value} (Led : σ → List (Addr × Obj)) (ps : σ → List (Str × Value)) (stored : List Str) (X : σ → Prop) (_F : Fr h₀ L s.heap m)
    (h : wpAny M A t (fun f s' => f = .next ∧ MyOut h₀ L s Led ps stored m X s') E s)
    (k : ∀ (c : σ) (u : Str → Option Value) h tk, X c → Fr h₀ L h (kstB (fun z => if stored.contains z then u z else m z) (ps c)) → News h₀ L h (Led c) → Q .next { s with heap := h, toks := tk }) : wpAny M A t Q E s := by
  refine wpAny_mono h (fun f s' hm => ?_) fun _ _ x => x
  obtain ⟨rfl, c, h', tk, m', news', rfl, F', N', hn, hk', hr, hx⟩ := hm
  exact k c m' h' tk hx (ksw_fr hk' hr F') fun p hp => N' p (hn p hp)
theorem nct {c : Bool} (h : c = false) : ¬ c = true := fun e => Bool.noConfusion (h.symm.trans e)
theorem ne_of_ct {l : List Str} {z a : Str} (h : l.contains z = false) (hm : a ∈ l) : ¬ z = a := fun e => by
  subst e
  rw [List.contains_iff_mem.mpr hm] at h; cases h
theorem nct_sub {l l' : List Str} {z : Str} (h : l.contains z = false) (hs : l'.all (fun a => l.contains a) = true) : ¬ l'.contains z = true := fun e => by
  have := List.all_eq_true.mp hs z (List.contains_iff_mem.mp e)
  rw [h] at this; cases this
theorem ne_of_ps {ps : List (Str × Value)} {z a : Str} {v : Value} (h : ∀ p ∈ ps, z ≠ p.1) (hm : (a, v) ∈ ps) : ¬ z = a := h _ hm
/-- what a frame's map says, name by name -/
theorem kall_nil {m : Str → Option Value} : ∀ p ∈ ([] : List (Str × Value)), m p.1 = some p.2 := fun _ h => nomatch h
theorem kall_cons {m : Str → Option Value} {x : Str} {v : Value} {r : List (Str × Value)} (h : m x = some v) (hr : ∀ p ∈ r, m p.1 = some p.2) : ∀ p ∈ (x, v) :: r, m p.1 = some p.2 := List.forall_mem_cons.mpr ⟨h, hr⟩
end
-- Loops
section
open PySem.Calls
set_option maxRecDepth 100000
theorem sub_ri_reversed : isSubtype (.type "range_iterator") (.type "reversed") = pure false := by rw [isSubtype_type]; kernel_rfl
noncomputable def revSmall (a b c : Int) : Bool := Builtin.Range.rangeFitsLong a && Builtin.Range.rangeFitsLong b && Builtin.Range.rangeFitsLong c && Builtin.Range.rangeFitsLong (-c) && Builtin.Range.rangeFitsLong (a - c) && Builtin.Range.rangeFitsLong (Builtin.Range.rangeSize a b c)
theorem range_reversed_1 (r : Addr) (a b c : Int) (t u v : Tok) :
    Meets (Builtin.«range.__reversed__» ⟨[.ref r], []⟩) (fun _ R s => s.heap.get? r = some { cls := .type "range", dict := none, data := .fields #[.int a t, .int b u, .int c v], slots := #[] } ∧ revSmall a b c = true ∧ R (.ok (.ret (Value.ref s.heap.objs.size))) { s with heap := s.heap.push { cls := Value.type "range_iterator", data := Data.fields #[rawInt (a + (Builtin.Range.rangeSize a b c - 1) * c), rawInt (Builtin.Range.rangeSize a b c), rawInt (-c)] }, toks := s.toks }) :=
  .of_wp fun prog w A R s h => by
    obtain ⟨hp, g, d, tk, os⟩ := s; obtain ⟨hl, hs, h⟩ := h
    have hs' : (Builtin.Range.rangeFitsLong a && Builtin.Range.rangeFitsLong b && Builtin.Range.rangeFitsLong c && Builtin.Range.rangeFitsLong (-c) && Builtin.Range.rangeFitsLong (a - c) && Builtin.Range.rangeFitsLong (Builtin.Range.rangeSize a b c)) = true := hs
    wp_walk
    simp only [hs', if_true]
    exact ⟨_, rfl, h⟩
section
variable {prog : Program} {w : World} {A : Around} {E : Value → Shared → Prop} {s : Shared}
abbrev riObj (a n c : Int) : Obj := { cls := .type "range_iterator", data := .fields #[rawInt a, rawInt n, rawInt c] }
theorem call_range_reversed {r : Addr} {b : Int} {t u v : Tok} {Q : Value → Shared → Prop} (hr : IsRange s.heap r 0 b 1 t u v) (h0 : 0 ≤ b) (h1 : b < 2 ^ 60)
    (h : Q (.ref s.heap.objs.size) { s with heap := s.heap.push (riObj (b - 1) b (-1)) }) : wpAny (model prog w) A (call (.builtin "range.__reversed__") [.ref r]) Q E s := by
  have hT : s.TypeIs (.ref r) "range" := ⟨_, hr, rfl⟩
  have hz : Builtin.Range.rangeSize 0 b 1 = b := by
    unfold Builtin.Range.rangeSize
    by_cases hb : 0 < b
    · simp [hb]
    · have : b = 0 := by omega
      subst this; simp
  have e1 : (0 : Int) + (b - 1) * 1 = b - 1 := by omega
  refine call_meets F.slot_range_reversed hT F.entry_range_reversed (F.args_range_reversed_1 _) (range_reversed_1 r 0 b 1 t u v) ⟨hr, ?_, ?_⟩
  · unfold revSmall
    rw [hz]
    unfold Builtin.Range.rangeFitsLong
    simp only [Bool.and_eq_true, decide_eq_true_eq]
    omega
  · show Q _ _
    rw [hz, e1]
    exact h
theorem code_reversed_range {r : Addr} {b : Int} {t u v : Tok} {Q₁ : Value → Shared → Prop} (hr : IsRange s.heap r 0 b 1 t u v) (h0 : 0 ≤ b) (h1 : b < 2 ^ 60)
    (h : Q₁ (.ref s.heap.objs.size) { s with heap := s.heap.push (riObj (b - 1) b (-1)) }) :
    codeAny (model prog w) A (.call (.builtin "reversed.__new__") ⟨[.type "reversed", .ref r], []⟩) (wants Q₁ E) s := by
  have hT : s.TypeIs (.ref r) "range" := ⟨_, hr, rfl⟩
  refine codeAny_of_tree ?_
  show wpAny _ A.in1 (do checkBuiltinCall "reversed.__new__" ⟨[.type "reversed", .ref r], []⟩; again (.builtin "reversed.__new__" ⟨[.type "reversed", .ref r], []⟩)) _ _ s
  refine wpAny_bind (wpAny_of_eq (F.newCall_reversed_1 _) (wpAny_pure ⟨plainId_quiet F.plain_reversed_new _, codeAny_builtin F.entry_reversed_new ?_⟩))
  rw [Around.under_plainId F.plain_reversed_new _]
  unfold Builtin.«reversed.__new__»
  refine wpAny_bind (wpAny_of_eq (newClass_reversed _) ?_)
  try dsimp only
  refine wpAny_bind (wpAny_of_eq (a := ()) (by first | rfl | kernel_rfl) ?_)
  refine wpAny_bind (wpAny_of_eq (a := ()) (by first | rfl | kernel_rfl) ?_)
  try dsimp only
  refine wpAny_bind (wpAny_specialOf hT F.slot_range_reversed.lookup ?_)
  try dsimp only
  refine wpAny_bind (wpAny_of_eq (F.slot_range_reversed.bind _) ?_)
  try dsimp only
  first
  | rw [if_neg (show ¬ ((Value.builtin "range.__reversed__" == Value.none) = true) from Bool.false_ne_true)]
  | (show wpAny _ _ (if (Value.builtin "range.__reversed__" == Value.none) = true then _ else _) _ _ _; rw [if_neg (show ¬ ((Value.builtin "range.__reversed__" == Value.none) = true) from Bool.false_ne_true)])
  refine wpAny_bind (wpAny_rule ?_)
  refine wpAny_bind (m := runValue (.call (.builtin "range.__reversed__") ⟨[.ref r], []⟩)) (show wpAny _ _ (call (.builtin "range.__reversed__") [.ref r]) _ _ _ from call_range_reversed hr h0 h1 ?_)
  first
  | exact wpAny_pure h
  | exact wpAny_bind (wpAny_pure (wpAny_pure h))
theorem call_reversed_range {r : Addr} {b : Int} {t u v : Tok} {Q : Value → Shared → Prop} (hr : IsRange s.heap r 0 b 1 t u v) (h0 : 0 ≤ b) (h1 : b < 2 ^ 60)
    (h : Q (.ref s.heap.objs.size) { s with heap := s.heap.push (riObj (b - 1) b (-1)) }) : wpAny (model prog w) A (call (.type "reversed") [.ref r]) Q E s := by
  refine callType_other (U := "range_iterator") (Q₁ := fun obj s₁ => obj = .ref s.heap.objs.size ∧ s₁ = { s with heap := s.heap.push (riObj (b - 1) b (-1)) }) (by decide +kernel) F.create_reversed ⟨_, _, F.mro_reversed⟩ F.made_reversed sub_ri_reversed (F.typeCall_reversed_1 _) (code_reversed_range hr h0 h1 ⟨rfl, rfl⟩) ?_
  rintro obj s₁ ⟨rfl, rfl⟩
  exact ⟨⟨_, Heap.get?_push_size _ rfl, rfl⟩, h⟩
end
theorem led_l {x : Addr × Obj} {r own : List (Addr × Obj)} : ∀ p ∈ x :: r, p ∈ x :: (r ++ own) := fun p hp => (List.mem_append.mpr (.inl hp) : p ∈ (x :: r) ++ own)
theorem led_r {x : Addr × Obj} {r own : List (Addr × Obj)} : ∀ p ∈ own, p ∈ x :: (r ++ own) := fun p hp => (List.mem_append.mpr (.inr hp) : p ∈ (x :: r) ++ own)
/-- what holds between the turns of a for -/
noncomputable def ForJ {σ : Type} (Led : σ → List (Addr × Obj)) (ps : σ → List (Str × Value)) (Facts : σ → Prop) (x : Str) (stored : List Str) (m₀ : Str → Option Value) (P : Nat → σ → Prop) (i : Nat) (m : Str → Option Value) (nx : List (Addr × Obj)) : Prop :=
  ∃ c : σ, nx = Led c ∧ Facts c ∧ (∀ p ∈ ps c, m p.1 = some p.2) ∧ (∀ z, z ≠ x → (∀ p ∈ ps c, z ≠ p.1) → stored.contains z = false → m z = m₀ z) ∧ P i c
noncomputable def FEnd {σ : Type} (h₀ : Heap) (L : Addr) (Led : σ → List (Addr × Obj)) (ps : σ → List (Str × Value)) (Facts : σ → Prop) (x : Str) (stored : List Str) (m₀ : Str → Option Value) (P : Nat → σ → Prop) (i : Nat) (own : List (Addr × Obj)) (adr : List Addr) (s₁ s₂ : Shared) : Prop :=
  InvEndN h₀ L (ForJ Led ps Facts x stored m₀ P i) own adr s₁ s₂
noncomputable def FPost {σ : Type} (h₀ : Heap) (L : Addr) (Led : σ → List (Addr × Obj)) (ps : σ → List (Str × Value)) (Facts : σ → Prop) (x : Str) (stored : List Str) (m₀ : Str → Option Value) (P : Nat → σ → Prop) (i : Nat) (own : List (Addr × Obj)) (adr : List Addr) (s₁ : Shared) (Q : Flow → Shared → Prop) (f : Flow) (s₂ : Shared) : Prop :=
  match f with
  | .ret v => Q (.ret v) s₂
  | .brk => Q .next s₂
  | _ => FEnd h₀ L Led ps Facts x stored m₀ P i own adr s₁ s₂
theorem f_end {σ : Type} {h₀ : Heap} {L : Addr} {Led : σ → List (Addr × Obj)} {ps : σ → List (Str × Value)} {Facts : σ → Prop} {x : Str} {stored : List Str} {m₀ m' : Str → Option Value} {P : Nat → σ → Prop} {i : Nat} (c : σ) {own news' : List (Addr × Obj)} {adr : List Addr} {s₁ : Shared} {h' : Heap} {tk : Nat}
    (F : Fr h₀ L h' m') (N : News h₀ L h' news') (hn : ∀ p ∈ Led c, p ∈ news') (ho : ∀ p ∈ own, p ∈ news') (ha : (Led c).map (·.1) = adr) (hf : Facts c) (hk : ∀ p ∈ ps c, m' p.1 = some p.2) (hr : ∀ z, z ≠ x → (∀ p ∈ ps c, z ≠ p.1) → stored.contains z = false → m' z = m₀ z) (hp : P i c) :
    FEnd h₀ L Led ps Facts x stored m₀ P i own adr s₁ { s₁ with heap := h', toks := tk } :=
  InvEndN.intro F N ⟨c, rfl, hf, hk, hr, hp⟩ ha hn ho
section
variable {prog : Program} {w : World} {A : Around} {E : Value → Shared → Prop} {s : Shared} {env : Env} {h₀ : Heap} {x : Str} {body : List Stmt} {Q : Flow → Shared → Prop}
theorem for_walks {σ : Type} {I : Addr} {fp wr : List Addr} {n : Nat} {Pv : Nat → Value → Prop} {St : Nat → Heap → Prop} {m₀ : Str → Option Value} (Led : σ → List (Addr × Obj)) (ps : σ → List (Str × Value)) (Facts : σ → Prop) (stored : List Str) (P : Nat → σ → Prop) (c₀ : σ)
    (W : Walks prog w A I fp wr n Pv St) (hLf : env.locals ∉ fp) (hwr : ∀ b ∈ wr, h₀.get? b = none) (hnw : ∀ p ∈ Led c₀, p.1 ∉ wr) (hfp : ∀ q ∈ Led c₀, q.1 ∉ fp) (hst : St 0 s.heap)
    (F : Fr h₀ env.locals s.heap m₀) (N : News h₀ env.locals s.heap (Led c₀)) (hf : Facts c₀) (hk : ∀ p ∈ ps c₀, m₀ p.1 = some p.2) (hp : P 0 c₀)
    (turn : ∀ (i : Nat) (c : σ) (v : Value) (u : Str → Option Value) h tk own, i < n → Pv i v → OwnOff own ((Led c₀).map (·.1)) → (Led c).map (·.1) = (Led c₀).map (·.1) → Facts c → P i c →
      Fr h₀ env.locals h (fun y => if y = x then some v else kstB (fun z => if stored.contains z then u z else m₀ z) (ps c) y) → News h₀ env.locals h (Led c ++ own) →
      wpAny (model prog w) A (execs body env) (FPost h₀ env.locals Led ps Facts x stored m₀ P (i + 1) own ((Led c₀).map (·.1)) { s with heap := h, toks := tk } Q) E { s with heap := h, toks := tk })
    (done : ∀ (c : σ) (u : Str → Option Value) h tk, Facts c → P n c → Fr h₀ env.locals h (fun y => if y = x then u y else kstB (fun z => if stored.contains z then u z else m₀ z) (ps c) y) → News h₀ env.locals h (Led c) → Q .next { s with heap := h, toks := tk }) :
    LoopAtV prog w A h₀ env x body Q E (.ref I) s := by
  refine loop_invN (fun i m nx => ForJ Led ps Facts x stored m₀ P i m nx) W hLf hwr hnw hfp hst F N ⟨c₀, rfl, hf, hk, fun _ _ _ _ => rfl, hp⟩ ?_ ?_
  · rintro i v m₁ nx h tk own hi hv hadr hoff ⟨c, rfl, hf', h1, h2, hp'⟩ F₁ N₁
    refine wpAny_mono (turn i c v m₁ h tk own hi hv hoff hadr hf' hp' (kst_fr h1 h2 F₁) N₁) (fun f s₂ q => ?_) fun _ _ x => x
    cases f <;> exact q
  · rintro m₁ nx h tk ⟨c, rfl, hf', h1, h2, hp'⟩ F₁ N₁
    exact done c m₁ h tk hf' hp' (kst_frOut h1 h2 F₁) N₁
/-- a for over an iterator of a range that stands at I -/
theorem for_ri {σ : Type} {I : Addr} {a d : Int} {n : Nat} {m₀ : Str → Option Value} (Led : σ → List (Addr × Obj)) (ps : σ → List (Str × Value)) (Facts : σ → Prop) (stored : List Str) (P : Nat → σ → Prop) (c₀ : σ) (hh : A.handled = none)
    (hit : IsRangeIter s.heap I a (n : Int) d) (hI : h₀.get? I = none) (hIL : I ≠ env.locals) (hnI : ∀ p ∈ Led c₀, p.1 ≠ I)
    (F : Fr h₀ env.locals s.heap m₀) (N : News h₀ env.locals s.heap (Led c₀)) (hf : Facts c₀) (hk : ∀ p ∈ ps c₀, m₀ p.1 = some p.2) (hp : P 0 c₀)
    (turn : ∀ (i : Nat) (c : σ) (t : Tok) (u : Str → Option Value) h tk own, i < n → OwnOff own ((Led c₀).map (·.1)) → (Led c).map (·.1) = (Led c₀).map (·.1) → Facts c → P i c →
      Fr h₀ env.locals h (fun y => if y = x then some (.int (a + i * d) t) else kstB (fun z => if stored.contains z then u z else m₀ z) (ps c) y) → News h₀ env.locals h (Led c ++ own) →
      wpAny (model prog w) A (execs body env) (FPost h₀ env.locals Led ps Facts x stored m₀ P (i + 1) own ((Led c₀).map (·.1)) { s with heap := h, toks := tk } Q) E { s with heap := h, toks := tk })
    (done : ∀ (c : σ) (u : Str → Option Value) h tk, Facts c → P n c → Fr h₀ env.locals h (fun y => if y = x then u y else kstB (fun z => if stored.contains z then u z else m₀ z) (ps c) y) → News h₀ env.locals h (Led c) → Q .next { s with heap := h, toks := tk }) :
    wpAny (model prog w) A (pyIter (.ref I)) (fun it s₂ => LoopAtV prog w A h₀ env x body Q E it s₂) E s := by
  refine wpAny_pyIter_rangeiter hit ?_
  refine for_walks Led ps Facts stored P c₀ (Walks.range hh I a d n) ?_ ?_ ?_ ?_ (by simpa using hit) F N hf hk hp ?_ done
  · intro hm; exact hIL (List.mem_singleton.mp hm).symm
  · intro b hb; rw [List.mem_singleton.mp hb]; exact hI
  · intro p hp hm; exact hnI p hp (List.mem_singleton.mp hm)
  · intro p hp hm; exact hnI p hp (List.mem_singleton.mp hm)
  · rintro i c v u h tk own hi ⟨t, rfl⟩ hoff hadr hf' hp' F₁ N₁
    exact turn i c t u h tk own hi hoff hadr hf' hp' F₁ N₁
/-- a for over a range by ones -/
theorem for_range {σ : Type} {r : Addr} {a b : Int} {t₀ u₀ v₀ : Tok} {n : Nat} {m₀ : Str → Option Value} (Led : σ → List (Addr × Obj)) (ps : σ → List (Str × Value)) (Facts : σ → Prop) (stored : List Str) (P : Nat → σ → Prop) (c₀ : σ) (hh : A.handled = none)
    (hr : IsRange s.heap r a b 1 t₀ u₀ v₀) (hsmall : Builtin.Range.small a b 1 = true) (hn : Builtin.Range.rangeSize a b 1 = (n : Int))
    (F : Fr h₀ env.locals s.heap m₀) (N : News h₀ env.locals s.heap (Led c₀)) (hf : Facts c₀) (hk : ∀ p ∈ ps c₀, m₀ p.1 = some p.2) (hp : P 0 c₀)
    (turn : ∀ (i : Nat) (c : σ) (t : Tok) (u : Str → Option Value) h tk own, i < n → OwnOff own ((Led c₀).map (·.1)) → (Led c).map (·.1) = (Led c₀).map (·.1) → Facts c → P i c →
      Fr h₀ env.locals h (fun y => if y = x then some (.int (a + i) t) else kstB (fun z => if stored.contains z then u z else m₀ z) (ps c) y) → News h₀ env.locals h (Led c ++ own) →
      wpAny (model prog w) A (execs body env) (FPost h₀ env.locals Led ps Facts x stored m₀ P (i + 1) own ((Led c₀).map (·.1)) { s with heap := h, toks := tk } Q) E { s with heap := h, toks := tk })
    (done : ∀ (c : σ) (u : Str → Option Value) h tk, Facts c → P n c → Fr h₀ env.locals h (fun y => if y = x then u y else kstB (fun z => if stored.contains z then u z else m₀ z) (ps c) y) → News h₀ env.locals h (Led c) → Q .next { s with heap := h, toks := tk }) :
    wpAny (model prog w) A (pyIter (.ref r)) (fun it s₂ => LoopAtV prog w A h₀ env x body Q E it s₂) E s := by
  refine wpAny_pyIter_range hr hsmall ?_
  refine for_walks Led ps Facts stored P c₀ (Walks.range hh s.heap.objs.size a 1 n) ?_ ?_ ?_ ?_ (by rw [hn]; simpa using Heap.get?_push_size _ rfl) (F.push _) (fun p hp => ⟨Heap.get?_push_of_some _ (N p hp).1, (N p hp).2⟩) hf hk hp ?_ done
  · intro hm; exact absurd F.ns.lt ((List.mem_singleton.mp hm) ▸ Nat.lt_irrefl _)
  · intro b hb; rw [List.mem_singleton.mp hb]; exact next_is_new F
  · intro p hp hm; exact absurd (Heap.lt_size (N p hp).1) ((List.mem_singleton.mp hm) ▸ Nat.lt_irrefl _)
  · intro p hp hm; exact absurd (Heap.lt_size (N p hp).1) ((List.mem_singleton.mp hm) ▸ Nat.lt_irrefl _)
  · rintro i c v u h tk own hi ⟨t, rfl⟩ hoff hadr hf' hp' F₁ N₁
    have e1 : a + (i : Int) * 1 = a + (i : Int) := by omega
    rw [e1] at F₁
    exact turn i c t u h tk own hi hoff hadr hf' hp' F₁ N₁
theorem fpost_list {σ : Type} {L : Addr} {Led : σ → List (Addr × Obj)} {ps : σ → List (Str × Value)} {Facts : σ → Prop} {stored : List Str} {m₀ : Str → Option Value} {P : Nat → σ → Prop} {pre : List Int} {own : List (Addr × Obj)} {adr : List Addr} {s₁ : Shared} {f : Flow} {s₂ : Shared}
    (q : FPost h₀ L Led ps Facts x stored m₀ P pre.length own adr s₁ Q f s₂) : InvPostN h₀ L (KstS Led ps Facts x stored m₀ (fun pre c => P pre.length c) pre) own adr s₁ Q f s₂ := by
  cases f <;> exact q
/-- a for over a list of ints that the ledger bears -/
theorem for_led {σ : Type} {l : Addr} {vs : List Value} {ns : List Int} {nn : Nat} {m₀ : Str → Option Value} (Led : σ → List (Addr × Obj)) (ps : σ → List (Str × Value)) (Facts : σ → Prop) (stored : List Str) (P : Nat → σ → Prop) (c₀ : σ) (hh : A.handled = none)
    (hl : ∀ c : σ, (l, listOf vs.toArray nn) ∈ Led c) (hi : IntsAre vs ns)
    (F : Fr h₀ env.locals s.heap m₀) (N : News h₀ env.locals s.heap (Led c₀)) (hf : Facts c₀) (hk : ∀ p ∈ ps c₀, m₀ p.1 = some p.2) (hp : P 0 c₀)
    (turn : ∀ (i : Nat) (c : σ) (t : Tok) (u : Str → Option Value) h tk own, i < ns.length → OwnOff own ((Led c₀).map (·.1)) → Facts c → P i c →
      Fr h₀ env.locals h (fun y => if y = x then some (.int (ns.getD i 0) t) else kstB (fun z => if stored.contains z then u z else m₀ z) (ps c) y) → News h₀ env.locals h (Led c ++ own) →
      wpAny (model prog w) A (execs body env) (FPost h₀ env.locals Led ps Facts x stored m₀ P (i + 1) own ((Led c₀).map (·.1)) { s with heap := h, toks := tk } Q) E { s with heap := h, toks := tk })
    (done : ∀ (c : σ) (u : Str → Option Value) h tk, Facts c → P ns.length c → Fr h₀ env.locals h (fun y => if y = x then u y else kstB (fun z => if stored.contains z then u z else m₀ z) (ps c) y) → News h₀ env.locals h (Led c) → Q .next { s with heap := h, toks := tk }) :
    wpAny (model prog w) A (pyIter (.ref l)) (fun it s₂ => LoopAtV prog w A h₀ env x body Q E it s₂) E s := by
  refine kst_listL Led ps Facts stored (fun pre c => P pre.length c) c₀ hh hl hi F N hf hk hp ?_ done
  intro c pre post n t u h tk own e hn hoff hf' hp' F₁ N₁
  have hlen : pre.length < ns.length := by rw [e]; simp
  have hg : ns.getD pre.length 0 = n := by rw [e, List.getD_eq_getElem?_getD]; simp
  have := turn pre.length c t u h tk own hlen hoff hf' hp' (by rw [hg]; exact F₁) N₁
  refine wpAny_mono this (fun f s₂ q => fpost_list (pre := pre ++ [n]) ?_) fun _ _ x => x
  rw [List.length_append]
  exact q
end
end
-- EnumL
section
set_option maxRecDepth 100000
section
variable {prog : Program} {w : World} {A : Around} {E : Value → Shared → Prop} {s : Shared} {env : Env} {h₀ : Heap} {x : Str} {body : List Stmt} {Q : Flow → Shared → Prop}
/-- a for over enumerate of a list that the ledger bears: what every turn asks -/
theorem enum_rest {σ : Type} {target : PySem.Expr} {l I : Addr} {vs : List Value} {nn : Nat} {m₀ : Str → Option Value} (Led : σ → List (Addr × Obj)) (ps : σ → List (Str × Value)) (Facts : σ → Prop) (stored : List Str) (P : Nat → σ → Prop) (adr : List Addr)
    (hl : ∀ c : σ, (l, listOf vs.toArray nn) ∈ Led c) (hI : ∀ a ∈ adr, a < I)
    (turn : ∀ (i : Nat) (c : σ) (T : Addr) (t : Tok) (u : Str → Option Value) h tk own, i < vs.length → OwnOff own adr → (Led c).map (·.1) = adr → Facts c → P i c → IsTup h T #[.int i t, vs.getD i .none] →
      Fr h₀ env.locals h (fun y => if y = x then u y else kstB (fun z => if stored.contains z then u z else m₀ z) (ps c) y) → News h₀ env.locals h (Led c ++ own) →
      wpAny (model prog w) A (assign target env (.ref T)) (fun _ s₂ => wpAny (model prog w) A (execs body env) (FPost h₀ env.locals Led ps Facts x stored m₀ P (i + 1) own adr { s with heap := h, toks := tk } Q) E s₂) E { s with heap := h, toks := tk })
    (done : ∀ (c : σ) (u : Str → Option Value) h tk, Facts c → P vs.length c → Fr h₀ env.locals h (fun y => if y = x then u y else kstB (fun z => if stored.contains z then u z else m₀ z) (ps c) y) → News h₀ env.locals h (Led c) → Q .next { s with heap := h, toks := tk }) :
    ∀ (us : List Value) (j : Nat), vs.drop j = us → j ≤ vs.length → ∀ m nx, nx.map (·.1) = adr → ForJ Led ps Facts x stored m₀ P j m nx →
      ItemsRest prog w A E h₀ env target body Q s [(I + 1, "enumerate"), (I, "list_iterator")] [(l, listOf vs.toArray nn)] (enumItems j us) m nx
  | [], j, hd, hj, m, nx, ha, ⟨c, e, hf, h1, h2, hp⟩ => by
    subst e
    have hj' : j = vs.length := by
      have := congrArg List.length hd
      rw [List.length_drop, List.length_nil] at this
      omega
    subst hj'
    exact fun h tk F N => done c m h tk hf hp (kst_frOut h1 h2 F) N
  | v :: us, j, hd, hj, m, nx, ha, ⟨c, e, hf, h1, h2, hp⟩ => by
    subst e
    have hlt : j < vs.length := by
      rcases Nat.lt_or_ge j vs.length with h | h
      · exact h
      · rw [List.drop_eq_nil_of_le h] at hd; cases hd
    rw [List.drop_eq_getElem_cons hlt] at hd
    injection hd with hv hd'
    have hvg : vs.getD j .none = v := by rw [List.getD_eq_getElem?_getD, List.getElem?_eq_getElem hlt, ← hv]; rfl
    refine ItemsRest.pair fun T t h tk hT F => AllObj.cons fun o1 _ => AllObj.cons fun o2 _ => AllObj.nil fun N => ?_
    have hoff : OwnOff [(I + 1, o1), (I, o2)] adr := by
      intro p hp b hb
      have hlb := hI b hb
      have hp' : p.1 = I + 1 ∨ p.1 = I := by
        rcases List.mem_cons.mp hp with rfl | hp
        · exact .inl rfl
        · exact .inr (by rw [List.mem_singleton.mp hp])
      rcases hp' with e | e <;> (intro q; rw [e] at q; subst q; exact absurd hlb (Nat.not_lt.mpr (by first | exact Nat.le_refl _ | exact Nat.le_succ _)))
    have N₂ : News h₀ env.locals h (Led c ++ [(I + 1, o1), (I, o2)]) := fun p hp => N p ((List.mem_append.mp hp).elim (fun h => List.mem_append.mpr (.inr h)) fun h => List.mem_append.mpr (.inl h))
    have fin : ∀ s₂, FEnd h₀ env.locals Led ps Facts x stored m₀ P (j + 1) [(I + 1, o1), (I, o2)] adr { s with heap := h, toks := tk } s₂ →
        UnrEndW h₀ env.locals { s with heap := h, toks := tk } [(I + 1, o1), (I, o2)] (fun m' n' => SubL [(l, listOf vs.toArray nn)] n' ∧ ItemsRest prog w A E h₀ env target body Q s [(I + 1, "enumerate"), (I, "list_iterator")] [(l, listOf vs.toArray nn)] (enumItems (j + 1) us) m' n') s₂ := by
      rintro s₂ ⟨h', tk', m', news', nx, e, F', N', hn, ho, ha', hJ⟩
      refine ⟨h', tk', m', nx, e, F', fun p hp => N' p ((List.mem_append.mp hp).elim (ho p) (hn p)), fun p hp q hq e' => ?_, ?_, ?_⟩
      · exact hoff q hq p.1 (by rw [← ha']; exact List.mem_map.mpr ⟨p, hp, rfl⟩) e'.symm
      · obtain ⟨c', rfl, _⟩ := hJ
        exact ⟨hl c', trivial⟩
      · exact enum_rest Led ps Facts stored P adr hl hI turn done us (j + 1) hd' hlt m' nx ha' hJ
    refine wpAny_mono (turn j c T t m h tk _ hlt hoff ha hf hp (by rw [hvg]; exact hT) (kst_frOut h1 h2 F) N₂) (fun _ s₂ q => wpAny_mono q (fun f s₃ r => ?_) fun _ _ x => x) fun _ _ x => x
    cases f with
    | ret v => exact r
    | brk => exact r
    | next => exact fin _ r
    | cont => exact fin _ r
theorem for_enum {σ : Type} {elts : List PySem.Expr} {k : Nat} {pos : Pos} {l : Addr} {vs : List Value} {nn : Nat} {m₀ : Str → Option Value} (x : Str) (Led : σ → List (Addr × Obj)) (ps : σ → List (Str × Value)) (Facts : σ → Prop) (stored : List Str) (P : Nat → σ → Prop) (c₀ : σ) (hh : A.handled = none)
    (hl : ∀ c : σ, (l, listOf vs.toArray nn) ∈ Led c)
    (F : Fr h₀ env.locals s.heap m₀) (N : News h₀ env.locals s.heap (Led c₀)) (hf : Facts c₀) (hk : ∀ p ∈ ps c₀, m₀ p.1 = some p.2) (hp : P 0 c₀)
    (turn : ∀ (i : Nat) (c : σ) (T : Addr) (t : Tok) (u : Str → Option Value) h tk own, i < vs.length → OwnOff own ((Led c₀).map (·.1)) → (Led c).map (·.1) = (Led c₀).map (·.1) → Facts c → P i c → IsTup h T #[.int i t, vs.getD i .none] →
      Fr h₀ env.locals h (fun y => if y = x then u y else kstB (fun z => if stored.contains z then u z else m₀ z) (ps c) y) → News h₀ env.locals h (Led c ++ own) →
      wpAny (model prog w) A (assign (.Tuple elts k pos) env (.ref T)) (fun _ s₂ => wpAny (model prog w) A (execs body env) (FPost h₀ env.locals Led ps Facts x stored m₀ P (i + 1) own ((Led c₀).map (·.1)) { s with heap := h, toks := tk } Q) E s₂) E { s with heap := h, toks := tk })
    (done : ∀ (c : σ) (u : Str → Option Value) h tk, Facts c → P vs.length c → Fr h₀ env.locals h (fun y => if y = x then u y else kstB (fun z => if stored.contains z then u z else m₀ z) (ps c) y) → News h₀ env.locals h (Led c) → Q .next { s with heap := h, toks := tk }) :
    wpAny (model prog w) A (call (.type "enumerate") [.ref l]) (fun xv s₁ => wpAny (model prog w) A (pyIter xv) (fun it s₂ => TurnsAt prog w A h₀ env (.Tuple elts k pos) body Q E it s₂) E s₁) E s :=
  ktu_enum hh F N (hl c₀) rfl rfl rfl fun I hI => enum_rest Led ps Facts stored P ((Led c₀).map (·.1)) hl (fun a ha => by obtain ⟨p, hp, rfl⟩ := List.mem_map.mp ha; exact hI p hp) turn done vs 0 rfl (Nat.zero_le _) m₀ (Led c₀) rfl ⟨c₀, rfl, hf, hk, fun _ _ _ _ => rfl, hp⟩
end
end
local macro_rules | `(tactic| walk_at $k:str) => `(tactic| k_extra $(Lean.Syntax.mkStrLit ("mine " ++ k.getString)))
-- Bis
section
/-- sorted, by index -/
noncomputable def Asc (ns : List Int) : Prop := ∀ i j : Nat, i ≤ j → j < ns.length → ns.getD i 0 ≤ ns.getD j 0
noncomputable def Cut (ns : List Int) (x : Int) (p : Int) : Prop := 0 ≤ p ∧ p ≤ ns.length ∧ (∀ j : Nat, (j : Int) < p → ns.getD j 0 < x) ∧ (∀ j : Nat, p ≤ j → j < ns.length → x ≤ ns.getD j 0)
noncomputable def BisI (ns : List Int) (x lo hi : Int) : Prop := (∀ j : Nat, (j : Int) < lo → ns.getD j 0 < x) ∧ (∀ j : Nat, hi ≤ j → j < ns.length → x ≤ ns.getD j 0)
theorem bisI_start (ns : List Int) (x : Int) : 0 ≤ (0 : Int) ∧ 0 ≤ (ns.length : Int) ∧ (ns.length : Int) ≤ ns.length ∧ BisI ns x 0 ns.length := ⟨by omega, by omega, by omega, fun j h => by omega, fun j h1 h2 => by omega⟩
theorem bisI_up {ns : List Int} {x lo hi : Int} (hs : Asc ns) (h : 0 ≤ lo ∧ lo ≤ hi ∧ hi ≤ ns.length ∧ BisI ns x lo hi) (hlt : lo < hi) (hm : ns.getD ((lo + hi).fdiv 2).toNat 0 < x) :
    0 ≤ (lo + hi).fdiv 2 + 1 ∧ (lo + hi).fdiv 2 + 1 ≤ hi ∧ hi ≤ ns.length ∧ BisI ns x ((lo + hi).fdiv 2 + 1) hi := by
  have e : (lo + hi).fdiv 2 = (lo + hi) / 2 := Int.fdiv_eq_ediv_of_nonneg _ (by omega)
  rw [e] at hm ⊢
  refine ⟨by omega, by omega, by omega, fun j hj => ?_, h.2.2.2.2⟩
  exact Int.lt_of_le_of_lt (hs j ((lo + hi) / 2).toNat (by omega) (by omega)) hm
theorem bisI_dn {ns : List Int} {x lo hi : Int} (hs : Asc ns) (h : 0 ≤ lo ∧ lo ≤ hi ∧ hi ≤ ns.length ∧ BisI ns x lo hi) (hlt : lo < hi) (hm : ¬ ns.getD ((lo + hi).fdiv 2).toNat 0 < x) :
    0 ≤ lo ∧ lo ≤ (lo + hi).fdiv 2 ∧ (lo + hi).fdiv 2 ≤ ns.length ∧ BisI ns x lo ((lo + hi).fdiv 2) := by
  have e : (lo + hi).fdiv 2 = (lo + hi) / 2 := Int.fdiv_eq_ediv_of_nonneg _ (by omega)
  rw [e] at hm ⊢
  refine ⟨by omega, by omega, by omega, h.2.2.2.1, fun j hj hj2 => ?_⟩
  exact Int.le_trans (Int.not_lt.mp hm) (hs ((lo + hi) / 2).toNat j (by omega) (by omega))
theorem bisI_end {ns : List Int} {x lo hi : Int} (hB : BisI ns x lo hi) (h0 : 0 ≤ lo) (h1 : lo ≤ hi) (h2 : hi ≤ ns.length) (hlt : ¬ lo < hi) : Cut ns x lo := by
  have e : lo = hi := by omega
  subst e
  exact ⟨h0, h2, hB.1, hB.2⟩
theorem bisM_up {lo hi : Int} (h : lo < hi) : (hi - ((lo + hi).fdiv 2 + 1)).toNat < (hi - lo).toNat := by
  have e : (lo + hi).fdiv 2 = (lo + hi) / 2 := Int.fdiv_eq_ediv_of_nonneg _ (by omega)
  rw [e]; omega
theorem bisM_dn {lo hi : Int} (h : lo < hi) : ((lo + hi).fdiv 2 - lo).toNat < (hi - lo).toNat := by
  have e : (lo + hi).fdiv 2 = (lo + hi) / 2 := Int.fdiv_eq_ediv_of_nonneg _ (by omega)
  rw [e]; omega
set_option maxRecDepth 100000 in
set_option maxHeartbeats 8000000 in
theorem bis2 {w : World} {l : Addr} {vs : List Value} {ns : List Int} {n : Nat} {rest : List (Addr × Obj)} {x : Int} {tx : Tok} (hi : IntsAre vs ns) (hl : ns.length < 2 ^ 20) (hs : Asc ns) :
    Tells w 32 1 [.ref l, .int x tx] ((l, listOf vs.toArray n) :: rest) (fun v news' => news' = (l, listOf vs.toArray n) :: rest ∧ ∃ p t, v = .int p t ∧ Cut ns x p) := by
  k_with_none
  (w_top off; unfold Tells; dsimp only [K0, P0, l0, pr]; k_fill)
  intro dp un gd cn cs a ccd cl outer A₀ base h₀ L m s mean mg mb Q E B F X N T hk hd hu hret
  (refine wpAny_call ?_; k_dflt (refine' code_def ?k1 ?k2 ?k3 ?k4 ?k5 ?kA ?kF ?kK ?k6 ?k7 ?k8 ?k9 ?kB ?_ ?c2 ?c3 ?c4 ?c5; (case kA => exact rfl); (case kF => exact rfl); (case kK => assumption); (case k1 => k_asm); (case k2 => k_asm); (case k3 => k_asm); (case k4 => k_asm); (case k5 => k_asm); (case k6 => k_is); (case k7 => k_is); (case k8 => ktr_room); (case k9 => first | exact BindsTo.of_eq rfl | exact binds_K (by k_in) rfl (by k_is) rfl rfl rfl | (refine' kp_binds ?kx ?ke; (case kx => k_in); (case ke => exact fun _ => rfl))); (case c5 => decide); (case kB => exact locs rfl); (case c2 => exact rfl); (case c3 => exact rfl); (case c4 => exact rfl); k_whole; intro g' L' h' FG' F' N' B' X' T'; (try dsimp only); (try k_lift B'); (try k_fold)))
  k_with "exec While Compare cons nil" => k_while (fun _ lo hi => 0 ≤ lo ∧ lo ≤ hi ∧ hi ≤ ns.length ∧ BisI ns x lo hi) (fun _ lo hi => (hi - lo).toNat) "lo" "hi"
  k_with "state" => first | exact bisI_start _ _ | exact bisI_up hs ⟨by assumption, by assumption, by assumption, by assumption⟩ (by assumption) (by assumption) | exact bisI_dn hs ⟨by assumption, by assumption, by assumption, by assumption⟩ (by assumption) (by assumption)
  k_with "measure" => first | exact bisM_up (by assumption) | exact bisM_dn (by assumption)
  k_steps
  exact hret _ _ _ _ ⟨rfl, _, _, rfl, bisI_end (by assumption) (by assumption) (by assumption) (by assumption) (by assumption)⟩ (by assumption) (by assumption)
set_option maxRecDepth 100000 in
set_option maxHeartbeats 8000000 in
theorem bis4 {w : World} {l : Addr} {vs : List Value} {ns : List Int} {n : Nat} {rest : List (Addr × Obj)} {x : Int} {tx t0 : Tok} (hi : IntsAre vs ns) (hl : ns.length < 2 ^ 20) (hs : Asc ns) :
    Tells w 32 1 [.ref l, .int x tx, .int 0 t0, .none] ((l, listOf vs.toArray n) :: rest) (fun v news' => news' = (l, listOf vs.toArray n) :: rest ∧ ∃ p t, v = .int p t ∧ Cut ns x p) := by
  k_with_none
  (w_top off; unfold Tells; dsimp only [K0, P0, l0, pr]; k_fill)
  intro dp un gd cn cs a ccd cl outer A₀ base h₀ L m s mean mg mb Q E B F X N T hk hd hu hret
  (refine wpAny_call ?_; k_dflt (refine' code_def ?k1 ?k2 ?k3 ?k4 ?k5 ?kA ?kF ?kK ?k6 ?k7 ?k8 ?k9 ?kB ?_ ?c2 ?c3 ?c4 ?c5; (case kA => exact rfl); (case kF => exact rfl); (case kK => assumption); (case k1 => k_asm); (case k2 => k_asm); (case k3 => k_asm); (case k4 => k_asm); (case k5 => k_asm); (case k6 => k_is); (case k7 => k_is); (case k8 => ktr_room); (case k9 => first | exact BindsTo.of_eq rfl | exact binds_K (by k_in) rfl (by k_is) rfl rfl rfl | (refine' kp_binds ?kx ?ke; (case kx => k_in); (case ke => exact fun _ => rfl))); (case c5 => decide); (case kB => exact locs rfl); (case c2 => exact rfl); (case c3 => exact rfl); (case c4 => exact rfl); k_whole; intro g' L' h' FG' F' N' B' X' T'; (try dsimp only); (try k_lift B'); (try k_fold)))
  k_with "exec While Compare cons nil" => k_while (fun _ lo hi => 0 ≤ lo ∧ lo ≤ hi ∧ hi ≤ ns.length ∧ BisI ns x lo hi) (fun _ lo hi => (hi - lo).toNat) "lo" "hi"
  k_with "state" => first | exact bisI_start _ _ | exact bisI_up hs ⟨by assumption, by assumption, by assumption, by assumption⟩ (by assumption) (by assumption) | exact bisI_dn hs ⟨by assumption, by assumption, by assumption, by assumption⟩ (by assumption) (by assumption)
  k_with "measure" => first | exact bisM_up (by assumption) | exact bisM_dn (by assumption)
  k_steps
  exact hret _ _ _ _ ⟨rfl, _, _, rfl, bisI_end (by assumption) (by assumption) (by assumption) (by assumption) (by assumption)⟩ (by assumption) (by assumption)
end
-- Cost
section
abbrev S (l : List Nat) : Str := ⟨l.toArray⟩
noncomputable def Let (x : Nat) : Prop := x = 97 ∨ x = 65 ∨ x = 98 ∨ x = 66
noncomputable def low (x : Nat) : Nat := if x = 65 then 97 else if x = 66 then 98 else x
noncomputable def cost (x y : Nat) : Int := if x = y then 0 else if low x = low y then 1 else 2
theorem lower_S {x : Nat} (hx : Let x) : Txt.lower (S [x]) = S [low x] := by
  rcases hx with rfl | rfl | rfl | rfl <;> decide +kernel
theorem my_lower {prog : Program} {w : World} {A : Around} {E : Value → Shared → Prop} {s : Shared} {x : Nat} {tx : Tok} {Q : Value → Shared → Prop} (hx : Let x) (h : ∀ t k, Q (.str (S [low x]) t) { s with toks := k }) :
    wpAny (model prog w) A (call (.builtin "str.lower") [.str (S [x]) tx]) Q E s :=
  SCL.lower (show 1 ≤ 5592405 by decide) fun _ => by rw [lower_S hx]; exact h _ _
theorem S_inj {l l' : List Nat} (h : S l = S l') : l = l' := by
  have := congrArg (fun x : Str => x.cps.toList) h
  simpa using this
theorem S_beq (l l' : List Nat) : (S l == S l') = decide (l = l') := by
  by_cases e : l = l'
  · subst e; simp
  · rw [decide_eq_false e]
    exact beq_eq_false_iff_ne.mpr fun h => e (S_inj h)
set_option maxRecDepth 100000 in
set_option maxHeartbeats 8000000 in
theorem cost_tells {w : World} {x y : Nat} {tx ty : Tok} {news : List (Addr × Obj)} (hx : Let x) (hy : Let y) :
    Tells w 67 1 [.str (S [x]) tx, .str (S [y]) ty] news (fun v news' => news' = news ∧ ∃ t, v = .int (cost x y) t) := by
  k_with_none
  k_with "mine call builtin:str.lower" => ((try dsimp only); refine my_lower (by assumption) ?_; intro _ _)
  (w_top off; unfold Tells; dsimp only [K0, P0, l0, pr]; k_fill)
  intro dp un gd cn cs a ccd cl outer A₀ base h₀ L m s mean mg mb Q E B F X N T hk hd hu hret
  (refine wpAny_call ?_; k_dflt (refine' code_def ?k1 ?k2 ?k3 ?k4 ?k5 ?kA ?kF ?kK ?k6 ?k7 ?k8 ?k9 ?kB ?_ ?c2 ?c3 ?c4 ?c5; (case kA => exact rfl); (case kF => exact rfl); (case kK => assumption); (case k1 => k_asm); (case k2 => k_asm); (case k3 => k_asm); (case k4 => k_asm); (case k5 => k_asm); (case k6 => k_is); (case k7 => k_is); (case k8 => ktr_room); (case k9 => first | exact BindsTo.of_eq rfl | exact binds_K (by k_in) rfl (by k_is) rfl rfl rfl | (refine' kp_binds ?kx ?ke; (case kx => k_in); (case ke => exact fun _ => rfl))); (case c5 => decide); (case kB => exact locs rfl); (case c2 => exact rfl); (case c3 => exact rfl); (case c4 => exact rfl); k_whole; intro g' L' h' FG' F' N' B' X' T'; (try dsimp only); (try k_lift B'); (try k_fold)))
  k_steps
  all_goals (simp only [S_beq, decide_eq_true_eq, decide_eq_false_iff_not, List.cons.injEq, and_true] at *)
  · exact hret _ _ _ _ ⟨rfl, _, by rw [cost, if_pos (by assumption)]⟩ (by assumption) (by assumption)
  · exact hret _ _ _ _ ⟨rfl, _, by rw [cost, if_neg (by assumption), if_pos (by assumption)]⟩ (by assumption) (by assumption)
  · exact hret _ _ _ _ ⟨rfl, _, by rw [cost, if_neg (by assumption), if_neg (by assumption)]⟩ (by assumption) (by assumption)
end
-- Ins
section
theorem ints_take {vs : List Value} {ns : List Int} (h : IntsAre vs ns) : ∀ k, IntsAre (vs.take k) (ns.take k) := by
  induction h with
  | nil => intro k; simp; exact .nil
  | cons i t _ ih =>
    intro k
    cases k with
    | zero => exact .nil
    | succ k => exact .cons i t (ih k)
theorem ints_drop {vs : List Value} {ns : List Int} (h : IntsAre vs ns) : ∀ k, IntsAre (vs.drop k) (ns.drop k) := by
  induction h with
  | nil => intro k; simp; exact .nil
  | cons i t h ih =>
    intro k
    cases k with
    | zero => exact .cons i t h
    | succ k => exact ih k
theorem ints_app {vs us : List Value} {ns ms : List Int} (h : IntsAre vs ns) (g : IntsAre us ms) : IntsAre (vs ++ us) (ns ++ ms) := by
  induction h with
  | nil => exact g
  | cons i t _ ih => exact .cons i t ih
theorem ints_ins {vs : List Value} {ns : List Int} (h : IntsAre vs ns) (k : Nat) (x : Int) (t : Tok) : IntsAre (vs.take k ++ Value.int x t :: vs.drop k) (ns.take k ++ x :: ns.drop k) :=
  ints_app (ints_take h k) (.cons x t (ints_drop h k))
set_option maxRecDepth 100000 in
set_option maxHeartbeats 8000000 in
theorem insort_tells {w : World} {l : Addr} {vs : List Value} {ns : List Int} {n : Nat} {rest : List (Addr × Obj)} {x : Int} {tx : Tok} (hi : IntsAre vs ns) (hl : ns.length < 2 ^ 20) (hs : Asc ns) (hoff : ∀ p ∈ rest, p.1 ≠ l) :
    Tells w 23 2 [.ref l, .int x tx] ((l, listOf vs.toArray n) :: rest) (fun v news' => v = .none ∧ ∃ vs' p, Cut ns x p ∧ IntsAre vs' (ns.take p.toNat ++ x :: ns.drop p.toNat) ∧ news' = (l, listOf vs'.toArray (n + 1)) :: rest) := by
  k_with_none
  k_with "mine call ref" => refine stop_out ?_
  k_with "mine call builtin:list.insert" => refine stop_out ?_
  (w_top off; unfold Tells; dsimp only [K0, P0, l0, pr]; k_fill)
  intro dp un gd cn cs a ccd cl outer A₀ base h₀ L m s mean mg mb Q E B F X N T hk hd hu hret
  (refine wpAny_call ?_; k_dflt (refine' code_def ?k1 ?k2 ?k3 ?k4 ?k5 ?kA ?kF ?kK ?k6 ?k7 ?k8 ?k9 ?kB ?_ ?c2 ?c3 ?c4 ?c5; (case kA => exact rfl); (case kF => exact rfl); (case kK => assumption); (case k1 => k_asm); (case k2 => k_asm); (case k3 => k_asm); (case k4 => k_asm); (case k5 => k_asm); (case k6 => k_is); (case k7 => k_is); (case k8 => ktr_room); (case k9 => first | exact BindsTo.of_eq rfl | exact binds_K (by k_in) rfl (by k_is) rfl rfl rfl | (refine' kp_binds ?kx ?ke; (case kx => k_in); (case ke => exact fun _ => rfl))); (case c5 => decide); (case kB => exact locs rfl); (case c2 => exact rfl); (case c3 => exact rfl); (case c4 => exact rfl); k_whole; intro g' L' h' FG' F' N' B' X' T'; (try dsimp only); (try k_lift B'); (try k_fold)))
  k_steps
  unfold Stop
  with_unfolding_all refine tells_use (bis4 hi hl hs) (by k_asm) (by k_asm) (by k_asm) (by k_asm) (by k_asm) (by rfl) (by ktr_room) (by ktr_units) ?_
  rintro v h2 tk2 news2 ⟨rfl, p, tp, rfl, hc⟩ F2 N2
  dsimp only
  k_steps
  unfold Stop
  have hc0 := hc.1
  have hc1 := hc.2.1
  have hvl := hi.length
  refine kl_insert (l := vs.take p.toNat ++ Value.int x tx :: vs.drop p.toNat) (by k_asm) (by k_asm) (by unfold Builtin.List.listFitsIndex; simp only [Bool.and_eq_true, decide_eq_true_eq]; omega) ?_ (Upd.head hoff) (by rw [PySem.sizeLine_eq]; simp; omega) ?_
  · unfold kl_ins
    have e : (if p < 0 then (p + (vs.toArray.toList.length : Int)).toNat else min p.toNat vs.toArray.toList.length) = p.toNat := by
      rw [if_neg (by omega)]; simp; omega
    rw [e]
  intro h3 F3 N3
  k_steps
  exact hret _ _ _ _ ⟨rfl, _, p, hc, ints_ins hi _ _ _, rfl⟩ (by assumption) (by assumption)
end
-- Marks
section
noncomputable def marksF (ns : List Int) : List Int := ns.flatMap fun x => [0, 1, 2 + x.fdiv 2, 4 + x]
set_option maxRecDepth 100000 in
set_option maxHeartbeats 8000000 in
theorem marks_tells {w : World} {l : Addr} {vs : List Value} {ns : List Int} {n : Nat} {rest : List (Addr × Obj)} (hi : IntsAre vs ns) (hl : ns.length < 2 ^ 10) :
    Tells w 81 1 [.ref l] ((l, listOf vs.toArray n) :: rest) (fun v news' => ∃ d mv n', v = .ref d ∧ IntsAre mv (marksF ns) ∧ (∀ p ∈ (l, listOf vs.toArray n) :: rest, p.1 ≠ d) ∧ news' = (d, listOf mv.toArray n') :: (l, listOf vs.toArray n) :: rest) := by
  k_with_none
  k_with "mine exec For" => refine stop_out ?_
  k_with "mine exec For Name Name cons nil" => refine stop_out ?_
  k_with "mine exec For Name Call cons nil" => refine stop_out ?_
  k_with "mine pyIter ref" => refine stop_out ?_
  k_with "mine FPost" => (dsimp only [FPost])
  k_with "mine call builtin:list.extend" => refine stop_out ?_
  (w_top off; unfold Tells; dsimp only [K0, P0, l0, pr]; k_fill)
  intro dp un gd cn cs a ccd cl outer A₀ base h₀ L m s mean mg mb Q E B F X N T hk hd hu hret
  (refine wpAny_call ?_; k_dflt (refine' code_def ?k1 ?k2 ?k3 ?k4 ?k5 ?kA ?kF ?kK ?k6 ?k7 ?k8 ?k9 ?kB ?_ ?c2 ?c3 ?c4 ?c5; (case kA => exact rfl); (case kF => exact rfl); (case kK => assumption); (case k1 => k_asm); (case k2 => k_asm); (case k3 => k_asm); (case k4 => k_asm); (case k5 => k_asm); (case k6 => k_is); (case k7 => k_is); (case k8 => ktr_room); (case k9 => first | exact BindsTo.of_eq rfl | exact binds_K (by k_in) rfl (by k_is) rfl rfl rfl | (refine' kp_binds ?kx ?ke; (case kx => k_in); (case ke => exact fun _ => rfl))); (case c5 => decide); (case kB => exact locs rfl); (case c2 => exact rfl); (case c3 => exact rfl); (case c4 => exact rfl); k_whole; intro g' L' h' FG' F' N' B' X' T'; (try dsimp only); (try k_lift B'); (try k_fold)))
  k_steps
  unfold Stop
  (rename Fr _ _ _ _ => lF')
  with_unfolding_all refine' For_invVF lF' ?k1 ?k2 ?_
  case k1 => exact rfl
  case k2 => exact rfl
  k_steps
  unfold Stop
  (rename Fr _ _ _ _ => lF2); (rename News _ _ _ _ => lN2); (rename _ < _ ∧ AllLt _ _ => lA)
  with_unfolding_all refine' for_led (σ := List Value × Nat) (fun c => (_, listOf c.1.toArray c.2) :: (l, listOf vs.toArray n) :: rest) (fun c => []) (fun _ => True) [] (fun i c => IntsAre c.1 (marksF (ns.take i))) ([], 0) rfl (fun c => .tail _ (.head _)) hi lF2 lN2 trivial (List.forall_mem_nil _) (by simp [marksF]; exact .nil) ?kt ?kd
  case kt =>
    rintro i ⟨mv, k⟩ t u h1 tk1 own hi1 ho _ hm F1 N1
    dsimp only [kstB, envOf, List.cons_append, List.map_cons] at hm F1 N1 ho
    have hA := kst_ltOf (l := (l, listOf vs.toArray n) :: rest) lA
    have hx : ns.take (i + 1) = ns.take i ++ [ns.getD i 0] := by
      rw [List.take_add_one, List.getElem?_eq_getElem hi1, List.getD_eq_getElem?_getD, List.getElem?_eq_getElem hi1]; rfl
    have hlen : mv.length < 2 ^ 15 := by
      rw [hm.length]
      have : (marksF (ns.take i)).length = 4 * (ns.take i).length := by
        unfold marksF
        generalize ns.take i = r
        induction r with
        | nil => rfl
        | cons a b ih => simp only [List.flatMap_cons, List.length_append, List.length_cons, List.length_nil, ih]; omega
      rw [this, List.length_take]; omega
    k_steps
    unfold Stop
    (rename _ < _ ∧ _ < _ ∧ AllLt _ _ => lB)
    refine my_extendE (ms := [0, 1, 2 + (ns.getD i 0).fdiv 2, 4 + ns.getD i 0]) (by k_asm) (by k_asm) (.cons _ _ (.cons _ _ (.cons _ _ (.cons _ _ .nil)))) (by simp) (Nat.ne_of_gt lB.1) ?_ (by simp; omega) ?_
    · intro p hp
      rcases List.mem_cons.mp hp with rfl | hp
      · exact Nat.ne_of_lt (hA _ (.head _))
      · rcases List.mem_append.mp hp with hp | hp
        · exact Nat.ne_of_lt (hA _ (.tail _ hp))
        · exact ho p hp _ (.head _)
    intro us h2 hus F2 N2
    k_steps
    refine f_end ⟨mv ++ us, k + 1⟩ (by assumption) (by assumption) (fun p hp => .tail _ ?_) (fun p hp => .tail _ (.tail _ (.tail _ (List.mem_append.mpr (.inr hp))))) rfl trivial (List.forall_mem_nil _) ?_ ?_
    · exact (List.mem_append.mpr (.inl hp) : p ∈ (_ :: _ :: rest) ++ own)
    · intro z h1 _ h3; simp [h1]
    · rw [hx]
      unfold marksF at hm ⊢
      rw [List.flatMap_append]
      exact ints_app hm hus
  case kd =>
    rintro ⟨mv, k⟩ u h1 tk1 _ hm F1 N1
    dsimp only [kstB, envOf, List.cons_append, List.map_cons] at hm F1 N1
    rw [List.take_length] at hm
    dsimp only
    have hA := kst_ltOf (l := (l, listOf vs.toArray n) :: rest) lA
    k_steps
    exact hret _ _ _ _ ⟨_, _, _, rfl, hm, fun p hp => Nat.ne_of_lt (hA p hp), rfl⟩ (by assumption) (by assumption)
end
-- Thr
section
theorem ints_getD {vs : List Value} {ns : List Int} (h : IntsAre vs ns) {i : Nat} (hi : i < ns.length) : ∃ t, vs.getD i .none = .int (ns.getD i 0) t := by
  obtain ⟨t, e⟩ := h.get i (ns.getD i 0) (by rw [List.getD_eq_getElem?_getD, List.getElem?_eq_getElem hi]; rfl)
  exact ⟨t, by rw [List.getD_eq_getElem?_getD, e]; rfl⟩
noncomputable def rowT (mk : Int) : List Int → List Int → Int → List Int
  | o :: ds, t :: ts, g => (if mk = o ∨ g > t then g else t) :: rowT mk ds ts (if mk = o ∨ g > t then t else g)
  | _, ts, _ => ts
theorem drop_getD {α : Type} (l : List α) (j : Nat) (d : α) (h : j < l.length) : l.drop j = l.getD j d :: l.drop (j + 1) := by
  rw [List.drop_eq_getElem_cons h, List.getD_eq_getElem?_getD, List.getElem?_eq_getElem h]; rfl
theorem take_set_snoc {α : Type} (l : List α) (j : Nat) (x : α) (h : j < l.length) : (l.set j x).take (j + 1) = l.take j ++ [x] := by
  rw [List.take_add_one, List.getElem?_set_self h, List.take_set, List.set_eq_of_length_le (by rw [List.length_take]; omega)]; rfl
theorem drop_set_past {α : Type} (l : List α) (j : Nat) (x : α) : (l.set j x).drop (j + 1) = l.drop (j + 1) := by
  rw [List.drop_set]; simp
theorem row_swap {mk g : Int} {ds ts : List Int} {j : Nat} (h1 : j < ds.length) (h2 : j < ts.length) (h : mk = ds.getD j 0 ∨ g > ts.getD j 0) :
    (ts.set j g).take (j + 1) ++ rowT mk (ds.drop (j + 1)) ((ts.set j g).drop (j + 1)) (ts.getD j 0) = ts.take j ++ rowT mk (ds.drop j) (ts.drop j) g := by
  rw [take_set_snoc _ _ _ h2, drop_set_past, drop_getD ds j 0 h1, drop_getD ts j 0 h2, rowT, if_pos h, if_pos h, List.append_assoc]; rfl
theorem row_stay {mk g : Int} {ds ts : List Int} {j : Nat} (h1 : j < ds.length) (h2 : j < ts.length) (h : ¬ (mk = ds.getD j 0 ∨ g > ts.getD j 0)) :
    ts.take (j + 1) ++ rowT mk (ds.drop (j + 1)) (ts.drop (j + 1)) g = ts.take j ++ rowT mk (ds.drop j) (ts.drop j) g := by
  rw [drop_getD ds j 0 h1, drop_getD ts j 0 h2, rowT, if_neg h, if_neg h, List.take_add_one, List.getElem?_eq_getElem h2, List.getD_eq_getElem?_getD, List.getElem?_eq_getElem h2, List.append_assoc]; rfl
theorem rowT_nil (mk g : Int) (ts : List Int) : rowT mk [] ts g = ts := by unfold rowT; rfl
theorem rowT_len (mk : Int) : ∀ (ds ts : List Int) (g : Int), (rowT mk ds ts g).length = ts.length
  | [], ts, _ => by unfold rowT; rfl
  | _ :: _, [], _ => by unfold rowT; rfl
  | _ :: ds, _ :: ts, _ => by unfold rowT; rw [List.length_cons, rowT_len mk ds ts, List.length_cons]
theorem off3 {D : Addr} {x y : Addr × Obj} {rest own own2 : List (Addr × Obj)} (h : ∀ p ∈ x :: y :: rest, p.1 < D) (h1 : ∀ p ∈ own, p.1 ≠ D) (h2 : ∀ p ∈ own2, p.1 ≠ D) : ∀ p ∈ x :: y :: (rest ++ own ++ own2), p.1 ≠ D := by
  intro p hp
  rcases List.mem_cons.mp hp with rfl | hp
  · exact Nat.ne_of_lt (h _ (.head _))
  rcases List.mem_cons.mp hp with rfl | hp
  · exact Nat.ne_of_lt (h _ (.tail _ (.head _)))
  rcases List.mem_append.mp hp with hp | hp
  · rcases List.mem_append.mp hp with hp | hp
    · exact Nat.ne_of_lt (h _ (.tail _ (.tail _ hp)))
    · exact h1 p hp
  · exact h2 p hp
noncomputable def thrF (down : List Int) : List Int → Int → List Int → List Int
  | [], _, ts => ts
  | mk :: r, i, ts => thrF down r (i + 1) (rowT mk down ts (-1 - i))
noncomputable def threadsF (along down : List Int) : List Int := thrF down along 0 (rangeKs 0 down.length)
set_option maxRecDepth 100000 in
set_option maxHeartbeats 8000000 in
theorem threads_tells {w : World} {la ld : Addr} {va vd : List Value} {na nd : Nat} {as ds : List Int} {rest : List (Addr × Obj)} (ha : IntsAre va as) (hd' : IntsAre vd ds) (hla : as.length < 2 ^ 10) (hld : ds.length < 2 ^ 10) :
    Tells w 88 1 [.ref la, .ref ld] ((la, listOf va.toArray na) :: (ld, listOf vd.toArray nd) :: rest) (fun v news' => ∃ d tv n', v = .ref d ∧ IntsAre tv (threadsF as ds) ∧ (∀ p ∈ (la, listOf va.toArray na) :: (ld, listOf vd.toArray nd) :: rest, p.1 ≠ d) ∧ news' = (d, listOf tv.toArray n') :: (la, listOf va.toArray na) :: (ld, listOf vd.toArray nd) :: rest) := by
  k_with_none
  k_with "mine exec For" => refine stop_out ?_
  k_with "mine exec For Name Name cons nil" => refine stop_out ?_
  k_with "mine exec For Name Call cons nil" => refine stop_out ?_
  k_with "mine pyIter ref" => refine stop_out ?_
  k_with "mine FPost" => (dsimp only [FPost])
  k_with "mine call builtin:list.extend" => refine stop_out ?_
  k_with "mine exec For Tuple Call cons nil" => refine stop_out ?_
  k_with "mine call type:enumerate" => refine stop_out ?_
  k_with "mine idx" => ((try dsimp only at *); first | omega | (simp only [List.length_set] at *; omega) | ((have hE9 := len_of_ne (by assumption)); omega))
  k_with "mine setItem ref int" => (refine my_set (by k_asm) (by k_asm) (by assumption) (by walk_at "mine idx") (by walk_at "mine idx") (by walk_at "mine idx") ?_; intro h' F' N'; (try k_sweep))
  (w_top off; unfold Tells; dsimp only [K0, P0, l0, pr]; k_fill)
  intro dp un gd cn cs a ccd cl outer A₀ base h₀ L m s mean mg mb Q E B F X N T hk hd hu hret
  (refine wpAny_call ?_; k_dflt (refine' code_def ?k1 ?k2 ?k3 ?k4 ?k5 ?kA ?kF ?kK ?k6 ?k7 ?k8 ?k9 ?kB ?_ ?c2 ?c3 ?c4 ?c5; (case kA => exact rfl); (case kF => exact rfl); (case kK => assumption); (case k1 => k_asm); (case k2 => k_asm); (case k3 => k_asm); (case k4 => k_asm); (case k5 => k_asm); (case k6 => k_is); (case k7 => k_is); (case k8 => ktr_room); (case k9 => first | exact BindsTo.of_eq rfl | exact binds_K (by k_in) rfl (by k_is) rfl rfl rfl | (refine' kp_binds ?kx ?ke; (case kx => k_in); (case ke => exact fun _ => rfl))); (case c5 => decide); (case kB => exact locs rfl); (case c2 => exact rfl); (case c3 => exact rfl); (case c4 => exact rfl); k_whole; intro g' L' h' FG' F' N' B' X' T'; (try dsimp only); (try k_lift B'); (try k_fold)))
  k_steps
  unfold Stop
  (rename Fr _ _ _ _ => lF')
  with_unfolding_all refine' For_turns lF' ?_
  k_steps
  unfold Stop
  (rename Fr _ _ _ _ => lF2); (rename News _ _ _ _ => lN2); (rename _ < _ ∧ _ < _ ∧ AllLt _ _ => lA); (rename IntsAre _ (rangeKs _ _) => hI)
  have eR : ((ds.length : Int) - 0).toNat = ds.length := by omega
  rw [eR] at hI
  with_unfolding_all refine' for_enum (σ := List Value × List Int × Nat) (Str.ofString "mark") (fun c => (_, listOf c.1.toArray c.2.2) :: (la, listOf va.toArray na) :: (ld, listOf vd.toArray nd) :: rest) (fun c => []) (fun _ => True) [Str.ofString "i", Str.ofString "going", Str.ofString "j", Str.ofString "other", Str.ofString "came"] (fun i c => IntsAre c.1 c.2.1 ∧ c.2.1.length = ds.length ∧ thrF ds (as.drop i) i c.2.1 = threadsF as ds) (_, rangeKs 0 ds.length, _) rfl (fun c => .tail _ (.head _)) lF2 lN2 trivial (List.forall_mem_nil _) ⟨hI, rangeKs_length _ _, rfl⟩ ?kt ?kd
  case kt =>
    rintro i ⟨tv, ts, cn1⟩ T0 t u h1 tk1 own hi1 ho hadr _ ⟨hm, hml, hmr⟩ hT F1 N1
    dsimp only [kstB, envOf, List.cons_append, List.map_cons] at hm hml hmr F1 N1 ho
    obtain ⟨tm, hvm⟩ := ints_getD ha (i := i) (by rw [← ha.length]; exact hi1)
    rw [hvm] at hT
    k_steps
    unfold Stop
    (rename Fr _ _ _ _ => lF3)
    with_unfolding_all refine' For_turns lF3 ?_
    k_steps
    unfold Stop
    (rename Fr _ _ _ _ => lF4); (rename News _ _ _ _ => lN4)
    with_unfolding_all refine' for_enum (σ := List Value × List Int × Nat × Int × Tok) (Str.ofString "other") (fun c => (_, listOf c.1.toArray c.2.2.1) :: (la, listOf va.toArray na) :: (ld, listOf vd.toArray nd) :: (rest ++ own)) (fun c => [(Str.ofString "going", .int c.2.2.2.1 c.2.2.2.2)]) (fun _ => True) [Str.ofString "j", Str.ofString "came"] (fun j c => IntsAre c.1 c.2.1 ∧ c.2.1.length = ds.length ∧ c.2.1.take j ++ rowT (as.getD i 0) (ds.drop j) (c.2.1.drop j) c.2.2.2.1 = rowT (as.getD i 0) ds ts (-1 - i)) (tv, ts, cn1, -1 - (i : Int), _) rfl (fun c => .tail _ (.tail _ (.head _))) lF4 lN4 trivial ?kk ⟨hm, hml, rfl⟩ ?kt2 ?kd2
    case kk => kst_all
    case kt2 =>
      rintro j ⟨tv2, ts2, cn2, g, tg⟩ T1 t1 u2 h2 tk2 own2 hj ho2 hadr2 _ ⟨hm2, hml2, hmr2⟩ hT1 F2 N2
      dsimp only [kstB, envOf, List.cons_append, List.map_cons] at hm2 hml2 hmr2 F2 N2 ho2
      obtain ⟨to, hvo⟩ := ints_getD hd' (i := j) (by rw [← hd'.length]; exact hj)
      rw [hvo] at hT1
      have hoffD := off3 (x := (la, listOf va.toArray na)) (y := (ld, listOf vd.toArray nd)) (rest := rest) (kst_ltOf lA) (fun p hp => ho p hp _ (.head _)) (fun p hp => ho2 p hp _ (.head _))
      have hjts : j < ts2.length := by rw [hml2, ← hd'.length]; exact hj
      have hts2 : ts2.length < 2 ^ 10 := by rw [hml2]; exact hld
      have htv2 : tv2.length = ts2.length := hm2.length
      k_steps
      · refine f_end ⟨tv2.set j (.int g tg), ts2.set j g, cn2, ts2.getD j 0, _⟩ (by assumption) (by assumption) ?_ ?_ rfl trivial (by kst_all) ?_ ⟨ints_set hm2 _, (List.length_set ..).trans hml2, (row_swap (by omega) hjts (.inl (by assumption))).trans hmr2⟩
        · intro p hp; exact (List.mem_append.mpr (.inl hp) : p ∈ (_ :: _ :: _ :: (rest ++ own)) ++ own2)
        · intro p hp; exact (List.mem_append.mpr (.inr hp) : p ∈ (_ :: _ :: _ :: (rest ++ own)) ++ own2)
        · (intros; (try dsimp only); (repeat refine Eq.trans (if_neg (by first | assumption | exact nct (by assumption) | exact nct_sub (by assumption) (by decide +kernel) | exact ne_of_ct (by assumption) (by first | with_reducible exact List.mem_cons_self | with_reducible exact (List.mem_cons_of_mem _ List.mem_cons_self) | with_reducible exact (List.mem_cons_of_mem _ (List.mem_cons_of_mem _ List.mem_cons_self)) | with_reducible exact (List.mem_cons_of_mem _ (List.mem_cons_of_mem _ (List.mem_cons_of_mem _ List.mem_cons_self))) | with_reducible exact (List.mem_cons_of_mem _ (List.mem_cons_of_mem _ (List.mem_cons_of_mem _ (List.mem_cons_of_mem _ List.mem_cons_self))))) | exact ne_of_ps (by assumption) (by first | with_reducible exact List.mem_cons_self | with_reducible exact (List.mem_cons_of_mem _ List.mem_cons_self) | with_reducible exact (List.mem_cons_of_mem _ (List.mem_cons_of_mem _ List.mem_cons_self)) | with_reducible exact (List.mem_cons_of_mem _ (List.mem_cons_of_mem _ (List.mem_cons_of_mem _ List.mem_cons_self))) | with_reducible exact (List.mem_cons_of_mem _ (List.mem_cons_of_mem _ (List.mem_cons_of_mem _ (List.mem_cons_of_mem _ List.mem_cons_self))))))) ?_); (repeat refine Eq.trans ?_ (Eq.symm (if_neg (by first | assumption | exact nct (by assumption) | exact nct_sub (by assumption) (by decide +kernel) | exact ne_of_ct (by assumption) (by first | with_reducible exact List.mem_cons_self | with_reducible exact (List.mem_cons_of_mem _ List.mem_cons_self) | with_reducible exact (List.mem_cons_of_mem _ (List.mem_cons_of_mem _ List.mem_cons_self)) | with_reducible exact (List.mem_cons_of_mem _ (List.mem_cons_of_mem _ (List.mem_cons_of_mem _ List.mem_cons_self))) | with_reducible exact (List.mem_cons_of_mem _ (List.mem_cons_of_mem _ (List.mem_cons_of_mem _ (List.mem_cons_of_mem _ List.mem_cons_self))))) | exact ne_of_ps (by assumption) (by first | with_reducible exact List.mem_cons_self | with_reducible exact (List.mem_cons_of_mem _ List.mem_cons_self) | with_reducible exact (List.mem_cons_of_mem _ (List.mem_cons_of_mem _ List.mem_cons_self)) | with_reducible exact (List.mem_cons_of_mem _ (List.mem_cons_of_mem _ (List.mem_cons_of_mem _ List.mem_cons_self))) | with_reducible exact (List.mem_cons_of_mem _ (List.mem_cons_of_mem _ (List.mem_cons_of_mem _ (List.mem_cons_of_mem _ List.mem_cons_self))))))))); with_unfolding_all rfl)
      · refine f_end ⟨tv2.set j (.int g tg), ts2.set j g, cn2, ts2.getD j 0, _⟩ (by assumption) (by assumption) ?_ ?_ rfl trivial (by kst_all) ?_ ⟨ints_set hm2 _, (List.length_set ..).trans hml2, (row_swap (by omega) hjts (.inr (by assumption))).trans hmr2⟩
        · intro p hp; exact (List.mem_append.mpr (.inl hp) : p ∈ (_ :: _ :: _ :: (rest ++ own)) ++ own2)
        · intro p hp; exact (List.mem_append.mpr (.inr hp) : p ∈ (_ :: _ :: _ :: (rest ++ own)) ++ own2)
        · (intros; (try dsimp only); (repeat refine Eq.trans (if_neg (by first | assumption | exact nct (by assumption) | exact nct_sub (by assumption) (by decide +kernel) | exact ne_of_ct (by assumption) (by first | with_reducible exact List.mem_cons_self | with_reducible exact (List.mem_cons_of_mem _ List.mem_cons_self) | with_reducible exact (List.mem_cons_of_mem _ (List.mem_cons_of_mem _ List.mem_cons_self)) | with_reducible exact (List.mem_cons_of_mem _ (List.mem_cons_of_mem _ (List.mem_cons_of_mem _ List.mem_cons_self))) | with_reducible exact (List.mem_cons_of_mem _ (List.mem_cons_of_mem _ (List.mem_cons_of_mem _ (List.mem_cons_of_mem _ List.mem_cons_self))))) | exact ne_of_ps (by assumption) (by first | with_reducible exact List.mem_cons_self | with_reducible exact (List.mem_cons_of_mem _ List.mem_cons_self) | with_reducible exact (List.mem_cons_of_mem _ (List.mem_cons_of_mem _ List.mem_cons_self)) | with_reducible exact (List.mem_cons_of_mem _ (List.mem_cons_of_mem _ (List.mem_cons_of_mem _ List.mem_cons_self))) | with_reducible exact (List.mem_cons_of_mem _ (List.mem_cons_of_mem _ (List.mem_cons_of_mem _ (List.mem_cons_of_mem _ List.mem_cons_self))))))) ?_); (repeat refine Eq.trans ?_ (Eq.symm (if_neg (by first | assumption | exact nct (by assumption) | exact nct_sub (by assumption) (by decide +kernel) | exact ne_of_ct (by assumption) (by first | with_reducible exact List.mem_cons_self | with_reducible exact (List.mem_cons_of_mem _ List.mem_cons_self) | with_reducible exact (List.mem_cons_of_mem _ (List.mem_cons_of_mem _ List.mem_cons_self)) | with_reducible exact (List.mem_cons_of_mem _ (List.mem_cons_of_mem _ (List.mem_cons_of_mem _ List.mem_cons_self))) | with_reducible exact (List.mem_cons_of_mem _ (List.mem_cons_of_mem _ (List.mem_cons_of_mem _ (List.mem_cons_of_mem _ List.mem_cons_self))))) | exact ne_of_ps (by assumption) (by first | with_reducible exact List.mem_cons_self | with_reducible exact (List.mem_cons_of_mem _ List.mem_cons_self) | with_reducible exact (List.mem_cons_of_mem _ (List.mem_cons_of_mem _ List.mem_cons_self)) | with_reducible exact (List.mem_cons_of_mem _ (List.mem_cons_of_mem _ (List.mem_cons_of_mem _ List.mem_cons_self))) | with_reducible exact (List.mem_cons_of_mem _ (List.mem_cons_of_mem _ (List.mem_cons_of_mem _ (List.mem_cons_of_mem _ List.mem_cons_self))))))))); with_unfolding_all rfl)
      · refine f_end ⟨tv2, ts2, cn2, g, tg⟩ (by assumption) (by assumption) ?_ ?_ rfl trivial (by kst_all) ?_ ⟨hm2, hml2, (row_stay (by omega) hjts (by rintro (q | q) <;> contradiction)).trans hmr2⟩
        · intro p hp; exact (List.mem_append.mpr (.inl hp) : p ∈ (_ :: _ :: _ :: (rest ++ own)) ++ own2)
        · intro p hp; exact (List.mem_append.mpr (.inr hp) : p ∈ (_ :: _ :: _ :: (rest ++ own)) ++ own2)
        · (intros; (try dsimp only); (repeat refine Eq.trans (if_neg (by first | assumption | exact nct (by assumption) | exact nct_sub (by assumption) (by decide +kernel) | exact ne_of_ct (by assumption) (by first | with_reducible exact List.mem_cons_self | with_reducible exact (List.mem_cons_of_mem _ List.mem_cons_self) | with_reducible exact (List.mem_cons_of_mem _ (List.mem_cons_of_mem _ List.mem_cons_self)) | with_reducible exact (List.mem_cons_of_mem _ (List.mem_cons_of_mem _ (List.mem_cons_of_mem _ List.mem_cons_self))) | with_reducible exact (List.mem_cons_of_mem _ (List.mem_cons_of_mem _ (List.mem_cons_of_mem _ (List.mem_cons_of_mem _ List.mem_cons_self))))) | exact ne_of_ps (by assumption) (by first | with_reducible exact List.mem_cons_self | with_reducible exact (List.mem_cons_of_mem _ List.mem_cons_self) | with_reducible exact (List.mem_cons_of_mem _ (List.mem_cons_of_mem _ List.mem_cons_self)) | with_reducible exact (List.mem_cons_of_mem _ (List.mem_cons_of_mem _ (List.mem_cons_of_mem _ List.mem_cons_self))) | with_reducible exact (List.mem_cons_of_mem _ (List.mem_cons_of_mem _ (List.mem_cons_of_mem _ (List.mem_cons_of_mem _ List.mem_cons_self))))))) ?_); (repeat refine Eq.trans ?_ (Eq.symm (if_neg (by first | assumption | exact nct (by assumption) | exact nct_sub (by assumption) (by decide +kernel) | exact ne_of_ct (by assumption) (by first | with_reducible exact List.mem_cons_self | with_reducible exact (List.mem_cons_of_mem _ List.mem_cons_self) | with_reducible exact (List.mem_cons_of_mem _ (List.mem_cons_of_mem _ List.mem_cons_self)) | with_reducible exact (List.mem_cons_of_mem _ (List.mem_cons_of_mem _ (List.mem_cons_of_mem _ List.mem_cons_self))) | with_reducible exact (List.mem_cons_of_mem _ (List.mem_cons_of_mem _ (List.mem_cons_of_mem _ (List.mem_cons_of_mem _ List.mem_cons_self))))) | exact ne_of_ps (by assumption) (by first | with_reducible exact List.mem_cons_self | with_reducible exact (List.mem_cons_of_mem _ List.mem_cons_self) | with_reducible exact (List.mem_cons_of_mem _ (List.mem_cons_of_mem _ List.mem_cons_self)) | with_reducible exact (List.mem_cons_of_mem _ (List.mem_cons_of_mem _ (List.mem_cons_of_mem _ List.mem_cons_self))) | with_reducible exact (List.mem_cons_of_mem _ (List.mem_cons_of_mem _ (List.mem_cons_of_mem _ (List.mem_cons_of_mem _ List.mem_cons_self))))))))); with_unfolding_all rfl)
    case kd2 =>
      rintro ⟨tv2, ts2, cn2, g, tg⟩ u2 h2 tk2 _ ⟨hm2, hml2, hmr2⟩ F2 N2
      dsimp only [kstB, envOf, List.cons_append, List.map_cons] at hm2 hml2 hmr2 F2 N2
      k_steps
      rw [hd'.length, List.drop_length, rowT_nil, List.take_append_drop] at hmr2
      refine f_end ⟨tv2, ts2, cn2⟩ (by assumption) (by assumption) ?_ ?_ rfl trivial (List.forall_mem_nil _) ?_ ⟨hm2, hml2, ?_⟩
      · intro p hp; exact (List.mem_append.mpr (.inl hp) : p ∈ (_ :: _ :: _ :: rest) ++ own)
      · intro p hp; exact (List.mem_append.mpr (.inr hp) : p ∈ (_ :: _ :: _ :: rest) ++ own)
      · (intros; (try dsimp only); (repeat refine Eq.trans (if_neg (by first | assumption | exact nct (by assumption) | exact nct_sub (by assumption) (by decide +kernel) | exact ne_of_ct (by assumption) (by first | with_reducible exact List.mem_cons_self | with_reducible exact (List.mem_cons_of_mem _ List.mem_cons_self) | with_reducible exact (List.mem_cons_of_mem _ (List.mem_cons_of_mem _ List.mem_cons_self)) | with_reducible exact (List.mem_cons_of_mem _ (List.mem_cons_of_mem _ (List.mem_cons_of_mem _ List.mem_cons_self))) | with_reducible exact (List.mem_cons_of_mem _ (List.mem_cons_of_mem _ (List.mem_cons_of_mem _ (List.mem_cons_of_mem _ List.mem_cons_self))))) | exact ne_of_ps (by assumption) (by first | with_reducible exact List.mem_cons_self | with_reducible exact (List.mem_cons_of_mem _ List.mem_cons_self) | with_reducible exact (List.mem_cons_of_mem _ (List.mem_cons_of_mem _ List.mem_cons_self)) | with_reducible exact (List.mem_cons_of_mem _ (List.mem_cons_of_mem _ (List.mem_cons_of_mem _ List.mem_cons_self))) | with_reducible exact (List.mem_cons_of_mem _ (List.mem_cons_of_mem _ (List.mem_cons_of_mem _ (List.mem_cons_of_mem _ List.mem_cons_self))))))) ?_); (repeat refine Eq.trans ?_ (Eq.symm (if_neg (by first | assumption | exact nct (by assumption) | exact nct_sub (by assumption) (by decide +kernel) | exact ne_of_ct (by assumption) (by first | with_reducible exact List.mem_cons_self | with_reducible exact (List.mem_cons_of_mem _ List.mem_cons_self) | with_reducible exact (List.mem_cons_of_mem _ (List.mem_cons_of_mem _ List.mem_cons_self)) | with_reducible exact (List.mem_cons_of_mem _ (List.mem_cons_of_mem _ (List.mem_cons_of_mem _ List.mem_cons_self))) | with_reducible exact (List.mem_cons_of_mem _ (List.mem_cons_of_mem _ (List.mem_cons_of_mem _ (List.mem_cons_of_mem _ List.mem_cons_self))))) | exact ne_of_ps (by assumption) (by first | with_reducible exact List.mem_cons_self | with_reducible exact (List.mem_cons_of_mem _ List.mem_cons_self) | with_reducible exact (List.mem_cons_of_mem _ (List.mem_cons_of_mem _ List.mem_cons_self)) | with_reducible exact (List.mem_cons_of_mem _ (List.mem_cons_of_mem _ (List.mem_cons_of_mem _ List.mem_cons_self))) | with_reducible exact (List.mem_cons_of_mem _ (List.mem_cons_of_mem _ (List.mem_cons_of_mem _ (List.mem_cons_of_mem _ List.mem_cons_self))))))))); with_unfolding_all rfl)
      · rw [← hmr, drop_getD as i 0 (by rw [← ha.length]; exact hi1)]
        show thrF ds (List.drop (i + 1) as) ((i + 1 : Nat) : Int) ts2 = thrF ds (List.drop (i + 1) as) ((i : Int) + 1) (rowT (as.getD i 0) ds ts (-1 - i))
        rw [hmr2, Int.natCast_succ]
  case kd =>
    rintro ⟨tv, ts, cn1⟩ u h1 tk1 _ ⟨hm, hml, hmr⟩ F1 N1
    dsimp only [kstB, envOf, List.cons_append, List.map_cons] at hm hml hmr F1 N1
    k_steps
    have hA := kst_ltOf (l := (la, listOf va.toArray na) :: (ld, listOf vd.toArray nd) :: rest) lA
    rw [ha.length, List.drop_length] at hmr
    exact hret _ _ _ _ ⟨_, _, _, rfl, by rw [← hmr]; exact hm, fun p hp => Nat.ne_of_lt (hA p hp), rfl⟩ (by assumption) (by assumption)
end
-- Heap1
section
abbrev PP := Int × Int
noncomputable def HV (rest : List (Addr × Obj)) (vs : List Value) (ps : List PP) : Prop := vs.length = ps.length ∧ ∀ j : Nat, j < ps.length → TupAt rest (vs.getD j .none) (ps.getD j (0, 0))
theorem HV.len {rest vs ps} (h : HV rest vs ps) : vs.length = ps.length := h.1
theorem getD_set {α : Type} (l : List α) (i j : Nat) (x d : α) (hi : i < l.length) : (l.set i x).getD j d = if i = j then x else l.getD j d := by
  simp only [List.getD_eq_getElem?_getD, List.getElem?_set]
  by_cases h : i = j
  · subst h; simp [hi]
  · simp [h]
theorem HV.set {rest vs ps} (h : HV rest vs ps) {k : Nat} {v : Value} {p : PP} (hk : k < ps.length) (hv : TupAt rest v p) : HV rest (vs.set k v) (ps.set k p) := by
  refine ⟨by simp [h.1], fun j hj => ?_⟩
  rw [List.length_set] at hj
  rw [getD_set _ _ _ _ _ (by rw [h.1]; exact hk), getD_set _ _ _ _ _ hk]
  by_cases e : k = j
  · simp [e, hv]
  · simp only [e, if_false]; exact h.2 j hj
theorem HV.at {rest vs ps} (h : HV rest vs ps) {k : Nat} (hk : k < ps.length) : TupAt rest (vs.getD k .none) (ps.getD k (0, 0)) := h.2 k hk
/-- the sift down, as the text does it -/
noncomputable def sdn (start : Nat) (x : PP) (pos : Nat) (hs : List PP) : List PP :=
  if h : start < pos then
    if lexlt x (hs.getD ((pos - 1) / 2) (0, 0)) then sdn start x ((pos - 1) / 2) (hs.set pos (hs.getD ((pos - 1) / 2) (0, 0))) else hs.set pos x
  else hs.set pos x
termination_by pos
decreasing_by omega
theorem sh1 (q : Int) (h : 0 < q) : (q - 1).fdiv (2 ^ Int.toNat 1) = ((q.toNat - 1) / 2 : Nat) := by
  have e : (2 : Int) ^ Int.toNat 1 = 2 := by decide
  rw [e, Int.fdiv_eq_ediv_of_nonneg _ (by omega)]
  omega
theorem shB {q : Int} (h : 0 < q) : 0 ≤ (q - 1).fdiv (2 ^ Int.toNat 1) ∧ (q - 1).fdiv (2 ^ Int.toNat 1) < q ∧ ((q - 1).fdiv (2 ^ Int.toNat 1)).toNat < q.toNat := by rw [sh1 q h]; omega
theorem shG1 {q : Int} {n : Nat} (h : 0 < q) (hq : q ≤ n) : ((q - 1).fdiv (2 ^ Int.toNat 1)).toNat < n := Nat.lt_of_lt_of_le (shB h).2.2 (Int.toNat_le.mpr hq)
theorem shG2 {q n : Int} (h : 0 < q) (hq : q ≤ n) : (q - 1).fdiv (2 ^ Int.toNat 1) < n := Int.lt_of_lt_of_le (shB h).2.1 hq
theorem shG3 {q : Int} (h : 0 < q) : 0 ≤ (q - 1).fdiv (2 ^ Int.toNat 1) := (shB h).1
theorem sdn_up {start : Nat} {x : PP} {hs : List PP} {q : Int} {r : Nat} (hr : r = ((q - 1).fdiv (2 ^ Int.toNat 1)).toNat) (h : (start : Int) < q) (hx : lexlt x (hs.getD r (0, 0)) = true) :
    sdn start x r (hs.set q.toNat (hs.getD r (0, 0))) = sdn start x q.toNat hs := by
  have e : r = (q.toNat - 1) / 2 := by rw [hr, sh1 q (by omega)]; omega
  rw [e] at hx ⊢
  conv => rhs; rw [sdn]
  rw [dif_pos (by omega), if_pos hx]
theorem sdn_no {start : Nat} {x : PP} {hs : List PP} {q : Int} {r : Nat} (hr : r = ((q - 1).fdiv (2 ^ Int.toNat 1)).toNat) (h : (start : Int) < q) (hx : lexlt x (hs.getD r (0, 0)) = false) :
    hs.set q.toNat x = sdn start x q.toNat hs := by
  have e : r = (q.toNat - 1) / 2 := by rw [hr, sh1 q (by omega)]; omega
  rw [e] at hx
  rw [sdn, dif_pos (by omega), if_neg (by rw [hx]; exact Bool.false_ne_true)]
theorem sdn_top {start : Nat} {x : PP} {hs : List PP} {q : Int} (h : ¬ (start : Int) < q) : hs.set q.toNat x = sdn start x q.toNat hs := by
  rw [sdn, dif_neg (by omega)]
abbrev SdS := List Value × List PP × Int × Tok
noncomputable def SdP (rest : List (Addr × Obj)) (start : Nat) (x : PP) (res : List PP) (len : Nat) (c : SdS) : Prop := HV rest c.1 c.2.1 ∧ c.2.1.length = len ∧ 0 ≤ c.2.2.1 ∧ c.2.2.1 < len ∧ sdn start x c.2.2.1.toNat c.2.1 = res
set_option maxRecDepth 100000 in
set_option maxHeartbeats 8000000 in
theorem siftdown_tells {w : World} {l : Addr} {vs : List Value} {ps : List PP} {n : Nat} {rest tl : List (Addr × Obj)} {start pos : Nat} {ts tp : Tok} (hv : HV tl vs ps) (hl : ps.length < 2 ^ 20) (hp : pos < ps.length) (hsub : ∀ z ∈ tl, z ∈ rest) (hoff : ∀ p ∈ rest, p.1 ≠ l) :
    Tells w 53 1 [.ref l, .int start ts, .int pos tp] ((l, listOf vs.toArray n) :: rest) (fun v news' => v = .none ∧ ∃ vs', HV tl vs' (sdn start (ps.getD pos (0, 0)) pos ps) ∧ news' = (l, listOf vs'.toArray n) :: rest) := by
  k_with_none
  k_with "mine idx" => ((try dsimp only at *); first | omega | (simp only [List.length_set] at *; omega) | exact shG3 (by omega) | exact shG2 (by omega) (by omega) | exact shG1 (by omega) (by omega) | (rw [sh1 _ (by omega)]; omega) | ((have hE9 := len_of_ne (by assumption)); omega))
  k_with "mine subscriptTail" => (refine my_item (by k_asm) (by k_mem) (by walk_at "mine idx") (by walk_at "mine idx") (by walk_at "mine idx") ?_)
  k_with "mine setItem ref int" => (refine my_set (by k_asm) (by k_asm) (by assumption) (by walk_at "mine idx") (by walk_at "mine idx") (by walk_at "mine idx") ?_; intro h' F' N'; (try k_sweep))
  k_with "mine MyPost" => (dsimp only [MyPost])
  k_with "mine exec While" => refine stop_out ?_
  k_with "mine exec While Compare cons nil" => refine stop_out ?_
  k_with "mine exec While BoolOp cons nil" => refine stop_out ?_
  k_with "mine tup" => first | assumption | exact HV.at (by assumption) (by walk_at "mine idx")
  k_with "mine compareOp Lt" => (refine lt_tup (by k_asm) (by walk_at "mine tup") (by walk_at "mine tup") (fun z hz => List.Mem.tail _ (by first | exact hz | exact (by assumption : ∀ z ∈ _, z ∈ _) z hz)) (by ktr_units) ?_)
  k_with "mine call ref" => refine stop_out ?_
  k_with "mine call builtin:len" => (k_here; (with_reducible show wpAny _ _ (call (Value.builtin "len") [Value.ref _]) _ _ _); k_dflt (refine' kst_len ?k1 ?k2 ?k3 ?k4 ?_; (case k1 => k_asm); (case k2 => k_mem); (case k3 => exact HV.len (by assumption)); (case k4 => omega); k_whole); (try intro _))
  (w_top off; unfold Tells; dsimp only [K0, P0, l0, pr]; k_fill)
  intro dp un gd cn cs a ccd cl outer A₀ base h₀ L m s mean mg mb Q E B F X N T hk hd hu hret
  have hvl := hv.1
  (refine wpAny_call ?_; k_dflt (refine' code_def ?k1 ?k2 ?k3 ?k4 ?k5 ?kA ?kF ?kK ?k6 ?k7 ?k8 ?k9 ?kB ?_ ?c2 ?c3 ?c4 ?c5; (case kA => exact rfl); (case kF => exact rfl); (case kK => assumption); (case k1 => k_asm); (case k2 => k_asm); (case k3 => k_asm); (case k4 => k_asm); (case k5 => k_asm); (case k6 => k_is); (case k7 => k_is); (case k8 => ktr_room); (case k9 => first | exact BindsTo.of_eq rfl | exact binds_K (by k_in) rfl (by k_is) rfl rfl rfl | (refine' kp_binds ?kx ?ke; (case kx => k_in); (case ke => exact fun _ => rfl))); (case c5 => decide); (case kB => exact locs rfl); (case c2 => exact rfl); (case c3 => exact rfl); (case c4 => exact rfl); k_whole; intro g' L' h' FG' F' N' B' X' T'; (try dsimp only); (try k_lift B'); (try k_fold)))
  k_steps
  unfold Stop
  (rename Fr _ _ _ _ => lF'); (rename News _ _ _ _ => lN')
  with_unfolding_all refine' my_while (σ := SdS) (fun c => (l, listOf c.1.toArray n) :: rest) (fun c => [(Str.ofString "pos", .int c.2.2.1 c.2.2.2)]) (fun _ => True) [Str.ofString "parentpos", Str.ofString "parent"] (SdP tl start (ps.getD pos (0, 0)) (sdn start (ps.getD pos (0, 0)) pos ps) ps.length) (fun c => c.2.2.1.toNat) (vs, ps, (pos : Int), tp) lF' lN' trivial ?kk ⟨hv, rfl, Int.natCast_nonneg _, Int.ofNat_lt.mpr hp, rfl⟩ ?_
  case kk => kst_all
  clear lF' lN'
  intro ⟨vs1, ps1, q, tq⟩ u1 h1 tk1 _ ⟨hv1, hl1, hq0, hq1, hr1⟩ F1 N1
  dsimp only [kstB] at hv1 hl1 hq0 hq1 hr1 F1 N1
  have hvl1 := hv1.1
  k_steps
  · refine my_end ⟨_, ps1.set q.toNat (ps1.getD ((q - 1).fdiv (2 ^ Int.toNat 1)).toNat (0, 0)), _, _⟩ (by assumption) (by assumption) (fun p hp => hp) trivial (by kst_all) (by ksw_same) ⟨hv1.set (by omega) (hv1.at (by walk_at "mine idx")), (List.length_set ..).trans hl1, ?_, ?_, ?_⟩ ?_
    · exact shG3 (by omega)
    · exact shG2 (by omega) (by omega)
    · exact (sdn_up rfl (by assumption) (by assumption)).trans hr1
    · exact (shB (by omega)).2.2
  · exact hret _ _ _ _ ⟨rfl, _, by rw [← hr1, ← sdn_no rfl (by assumption) (by assumption)]; exact hv1.set (by omega) (hv.at hp), rfl⟩ (by assumption) (by assumption)
  · exact hret _ _ _ _ ⟨rfl, _, by rw [← hr1, ← sdn_top (by assumption)]; exact hv1.set (by omega) (hv.at hp), rfl⟩ (by assumption) (by assumption)
theorem siftdown_int {w : World} {l : Addr} {vs : List Value} {ps : List PP} {n : Nat} {rest tl : List (Addr × Obj)} {start pos : Int} {ts tp : Tok} (hv : HV tl vs ps) (hl : ps.length < 2 ^ 20) (h0 : 0 ≤ start) (h1 : 0 ≤ pos) (hp : pos < ps.length) (hsub : ∀ z ∈ tl, z ∈ rest) (hoff : ∀ p ∈ rest, p.1 ≠ l) :
    Tells w 53 1 [.ref l, .int start ts, .int pos tp] ((l, listOf vs.toArray n) :: rest) (fun v news' => v = .none ∧ ∃ vs', HV tl vs' (sdn start.toNat (ps.getD pos.toNat (0, 0)) pos.toNat ps) ∧ news' = (l, listOf vs'.toArray n) :: rest) := by
  obtain ⟨k, rfl⟩ := Int.eq_ofNat_of_zero_le h0
  obtain ⟨j, rfl⟩ := Int.eq_ofNat_of_zero_le h1
  exact siftdown_tells hv hl (by omega) hsub hoff
end
-- Heap2
section
/-- the sift up, as the text does it -/
noncomputable def sup (start : Nat) (x : PP) (pos : Nat) (hs : List PP) : List PP :=
  if h : 2 * pos + 1 < hs.length then
    if 2 * pos + 2 < hs.length ∧ lexlt (hs.getD (2 * pos + 1) (0, 0)) (hs.getD (2 * pos + 2) (0, 0)) = false then sup start x (2 * pos + 2) (hs.set pos (hs.getD (2 * pos + 2) (0, 0)))
    else sup start x (2 * pos + 1) (hs.set pos (hs.getD (2 * pos + 1) (0, 0)))
  else sdn start x pos (hs.set pos x)
termination_by hs.length - pos
decreasing_by all_goals (simp only [List.length_set]; omega)
theorem sup_right {start : Nat} {x : PP} {hs : List PP} {q : Int} {r : Nat} (h0 : 0 ≤ q) (hr : r = (2 * q + 1 + 1).toNat) (h : 2 * q + 1 + 1 < hs.length) (hx : lexlt (hs.getD (2 * q + 1).toNat (0, 0)) (hs.getD r (0, 0)) = false) :
    sup start x r (hs.set q.toNat (hs.getD r (0, 0))) = sup start x q.toNat hs := by
  have e : r = 2 * q.toNat + 2 := by omega
  have e' : (2 * q + 1).toNat = 2 * q.toNat + 1 := by omega
  rw [e', e] at hx
  rw [e]
  conv => rhs; rw [sup]
  rw [dif_pos (by omega), if_pos ⟨by omega, hx⟩]
theorem sup_left {start : Nat} {x : PP} {hs : List PP} {q : Int} {r : Nat} (h0 : 0 ≤ q) (hr : r = (2 * q + 1).toNat) (h : 2 * q + 1 < hs.length) (hx : 2 * q + 1 + 1 < hs.length → lexlt (hs.getD r (0, 0)) (hs.getD (2 * q + 1 + 1).toNat (0, 0)) = true) :
    sup start x r (hs.set q.toNat (hs.getD r (0, 0))) = sup start x q.toNat hs := by
  have e : r = 2 * q.toNat + 1 := by omega
  have e' : (2 * q + 1 + 1).toNat = 2 * q.toNat + 2 := by omega
  rw [e', e] at hx
  rw [e]
  conv => rhs; rw [sup]
  rw [dif_pos (by omega), if_neg]
  rintro ⟨a, b⟩
  rw [hx (by omega)] at b
  cases b
theorem sup_leaf {start : Nat} {x : PP} {hs : List PP} {q : Int} (h0 : 0 ≤ q) (h : ¬ 2 * q + 1 < hs.length) : sdn start x q.toNat (hs.set q.toNat x) = sup start x q.toNat hs := by
  rw [sup, dif_neg (by omega)]
abbrev SuS := List Value × List PP × Int × Tok × Tok
noncomputable def SuP (rest : List (Addr × Obj)) (start : Nat) (x : PP) (res : List PP) (len : Nat) (c : SuS) : Prop := HV rest c.1 c.2.1 ∧ c.2.1.length = len ∧ 0 ≤ c.2.2.1 ∧ c.2.2.1 < len ∧ sup start x c.2.2.1.toNat c.2.1 = res
set_option maxRecDepth 100000 in
set_option maxHeartbeats 8000000 in
theorem siftup_tells {w : World} {l : Addr} {vs : List Value} {ps : List PP} {n : Nat} {rest tl : List (Addr × Obj)} {pos : Int} {tp : Tok} (hv : HV tl vs ps) (hl : ps.length < 2 ^ 20) (h0 : 0 ≤ pos) (hp : pos < ps.length) (hsub : ∀ z ∈ tl, z ∈ rest) (hoff : ∀ p ∈ rest, p.1 ≠ l) :
    Tells w 60 2 [.ref l, .int pos tp] ((l, listOf vs.toArray n) :: rest) (fun v news' => v = .none ∧ ∃ vs', HV tl vs' (sup pos.toNat (ps.getD pos.toNat (0, 0)) pos.toNat ps) ∧ news' = (l, listOf vs'.toArray n) :: rest) := by
  k_with_none
  k_with "mine idx" => ((try dsimp only at *); first | omega | (simp only [List.length_set] at *; omega) | exact shG3 (by omega) | exact shG2 (by omega) (by omega) | exact shG1 (by omega) (by omega) | (rw [sh1 _ (by omega)]; omega) | ((have hE9 := len_of_ne (by assumption)); omega))
  k_with "mine subscriptTail" => (refine my_item (by k_asm) (by k_mem) (by walk_at "mine idx") (by walk_at "mine idx") (by walk_at "mine idx") ?_)
  k_with "mine setItem ref int" => (refine my_set (by k_asm) (by k_asm) (by assumption) (by walk_at "mine idx") (by walk_at "mine idx") (by walk_at "mine idx") ?_; intro h' F' N'; (try k_sweep))
  k_with "mine MyPost" => (dsimp only [MyPost])
  k_with "mine exec While" => refine stop_out ?_
  k_with "mine exec While Compare cons nil" => refine stop_out ?_
  k_with "mine exec While BoolOp cons nil" => refine stop_out ?_
  k_with "mine tup" => first | assumption | exact HV.at (by assumption) (by walk_at "mine idx")
  k_with "mine compareOp Lt" => (refine lt_tup (by k_asm) (by walk_at "mine tup") (by walk_at "mine tup") (fun z hz => List.Mem.tail _ (by first | exact hz | exact (by assumption : ∀ z ∈ _, z ∈ _) z hz)) (by ktr_units) ?_)
  k_with "mine call ref" => refine stop_out ?_
  k_with "mine call builtin:len" => (k_here; (with_reducible show wpAny _ _ (call (Value.builtin "len") [Value.ref _]) _ _ _); k_dflt (refine' kst_len ?k1 ?k2 ?k3 ?k4 ?_; (case k1 => k_asm); (case k2 => k_mem); (case k3 => exact HV.len (by assumption)); (case k4 => omega); k_whole); (try intro _))
  (w_top off; unfold Tells; dsimp only [K0, P0, l0, pr]; k_fill)
  intro dp un gd cn cs a ccd cl outer A₀ base h₀ L m s mean mg mb Q E B F X N T hk hd hu hret
  have hvl := hv.1
  (refine wpAny_call ?_; k_dflt (refine' code_def ?k1 ?k2 ?k3 ?k4 ?k5 ?kA ?kF ?kK ?k6 ?k7 ?k8 ?k9 ?kB ?_ ?c2 ?c3 ?c4 ?c5; (case kA => exact rfl); (case kF => exact rfl); (case kK => assumption); (case k1 => k_asm); (case k2 => k_asm); (case k3 => k_asm); (case k4 => k_asm); (case k5 => k_asm); (case k6 => k_is); (case k7 => k_is); (case k8 => ktr_room); (case k9 => first | exact BindsTo.of_eq rfl | exact binds_K (by k_in) rfl (by k_is) rfl rfl rfl | (refine' kp_binds ?kx ?ke; (case kx => k_in); (case ke => exact fun _ => rfl))); (case c5 => decide); (case kB => exact locs rfl); (case c2 => exact rfl); (case c3 => exact rfl); (case c4 => exact rfl); k_whole; intro g' L' h' FG' F' N' B' X' T'; (try dsimp only); (try k_lift B'); (try k_fold)))
  k_steps
  unfold Stop
  (rename Fr _ _ _ _ => lF'); (rename News _ _ _ _ => lN')
  with_unfolding_all refine' my_while (σ := SuS) (fun c => (l, listOf c.1.toArray n) :: rest) (fun c => [(Str.ofString "pos", .int c.2.2.1 c.2.2.2.1), (Str.ofString "childpos", .int (2 * c.2.2.1 + 1) c.2.2.2.2)]) (fun _ => True) [Str.ofString "rightpos"] (SuP tl pos.toNat (ps.getD pos.toNat (0, 0)) (sup pos.toNat (ps.getD pos.toNat (0, 0)) pos.toNat ps) ps.length) (fun c => (ps.length - c.2.2.1).toNat) (vs, ps, pos, tp, _) lF' lN' trivial ?kk ⟨hv, rfl, h0, hp, rfl⟩ ?_
  case kk => kst_all
  clear lF' lN'
  intro ⟨vs1, ps1, q, tq, tc⟩ u1 h1 tk1 _ ⟨hv1, hl1, hq0, hq1, hr1⟩ F1 N1
  dsimp only [kstB] at hv1 hl1 hq0 hq1 hr1 F1 N1
  have hvl1 := hv1.1
  k_steps
  · refine my_end ⟨_, ps1.set q.toNat (ps1.getD (2 * q + 1).toNat (0, 0)), _, _, _⟩ (by assumption) (by assumption) (fun p hp => hp) trivial (by kst_all) (by ksw_same) ⟨hv1.set (by omega) (hv1.at (by omega)), (List.length_set ..).trans hl1, by dsimp only; omega, by dsimp only; omega, ?_⟩ (by dsimp only; omega)
    exact (sup_left hq0 rfl (by omega) (fun _ => by first | assumption | omega)).trans hr1
  · refine my_end ⟨_, ps1.set q.toNat (ps1.getD (2 * q + 1 + 1).toNat (0, 0)), _, _, _⟩ (by assumption) (by assumption) (fun p hp => hp) trivial (by kst_all) (by ksw_same) ⟨hv1.set (by omega) (hv1.at (by omega)), (List.length_set ..).trans hl1, by dsimp only; omega, by dsimp only; omega, ?_⟩ (by dsimp only; omega)
    exact (sup_right hq0 rfl (by omega) (by assumption)).trans hr1
  · refine my_end ⟨_, ps1.set q.toNat (ps1.getD (2 * q + 1).toNat (0, 0)), _, _, _⟩ (by assumption) (by assumption) (fun p hp => hp) trivial (by kst_all) (by ksw_same) ⟨hv1.set (by omega) (hv1.at (by omega)), (List.length_set ..).trans hl1, by dsimp only; omega, by dsimp only; omega, ?_⟩ (by dsimp only; omega)
    exact (sup_left hq0 rfl (by omega) (fun _ => by first | assumption | omega)).trans hr1
  · unfold Stop
    with_unfolding_all refine tells_use (siftdown_int (hv1.set (k := q.toNat) (by omega) (hv.at (k := pos.toNat) (by omega))) (by simp [hl1]; omega) h0 hq0 (by simp [hl1]; omega) hsub hoff) (by k_asm) (by k_asm) (by k_asm) (by k_asm) (by k_asm) (by rfl) (by ktr_room) (by ktr_units) ?_
    rintro v h2 tk2 news2 ⟨rfl, vs2, hv2, rfl⟩ F2 N2
    dsimp only
    rw [getD_set _ _ _ _ _ (by omega), if_pos rfl, sup_leaf hq0 (by omega), hr1] at hv2
    k_steps
    exact hret _ _ _ _ ⟨rfl, _, hv2, rfl⟩ (by assumption) (by assumption)
end
-- Heap3
section
theorem getD_app {α : Type} (p q : List α) (j : Nat) (d : α) (h : j < p.length) : (p ++ q).getD j d = p.getD j d := by
  rw [List.getD_eq_getElem?_getD, List.getElem?_append_left h, List.getD_eq_getElem?_getD]
theorem HV.snoc {rest : List (Addr × Obj)} {vs : List Value} {ps : List PP} (h : HV rest vs ps) (h0 : 0 < ps.length) : ∃ p y pp z, vs = p ++ [y] ∧ ps = pp ++ [z] ∧ HV rest p pp ∧ TupAt rest y z := by
  have hv0 : vs ≠ [] := by intro e; have := h.1; rw [e] at this; simp at this; omega
  have hp0 : ps ≠ [] := by intro e; rw [e] at h0; simp at h0
  have e1 := (List.dropLast_concat_getLast hv0).symm
  have e2 := (List.dropLast_concat_getLast hp0).symm
  have hl : vs.dropLast.length = ps.dropLast.length := by simp [h.1]
  refine ⟨_, _, _, _, e1, e2, ⟨hl, fun j hj => ?_⟩, ?_⟩
  · have := h.2 j (by rw [List.length_dropLast] at hj; omega)
    rw [e1, e2] at this
    rw [getD_app _ _ _ _ (by omega), getD_app _ _ _ _ hj] at this
    exact this
  · have := h.2 (ps.length - 1) (by omega)
    have hps : ps.dropLast.length = ps.length - 1 := by simp
    have q1 : vs.getD (ps.length - 1) .none = vs.getLast hv0 := by
      conv => lhs; rw [e1]
      rw [List.getD_eq_getElem?_getD, List.getElem?_append_right (by omega), hl, hps]; simp
    have q2 : ps.getD (ps.length - 1) (0, 0) = ps.getLast hp0 := by
      conv => lhs; rw [e2]
      rw [List.getD_eq_getElem?_getD, List.getElem?_append_right (by simp), hps]; simp
    rw [q1, q2] at this
    exact this
theorem kl_last_snoc : ∀ (p : List Value) (y : Value), kl_last (p ++ [y]) = some (p, y)
  | [], y => rfl
  | x :: r, y => by
    show (match kl_last (r ++ [y]) with | some (p, y) => some (x :: p, y) | none => some ([], x)) = _
    rw [kl_last_snoc r y]
noncomputable def popF (ps : List PP) : PP × List PP :=
  match ps.dropLast with
  | [] => (ps.getLastD (0, 0), [])
  | z :: r => (z, sup 0 (ps.getLastD (0, 0)) 0 (ps.getLastD (0, 0) :: r))
theorem popF_one (z : PP) : popF ([] ++ [z]) = (z, []) := rfl
theorem popF_more (z1 : PP) (r : List PP) (z : PP) : popF ((z1 :: r) ++ [z]) = (z1, sup 0 z 0 (z :: r)) := by
  have h1 : ((z1 :: r) ++ [z]).dropLast = z1 :: r := List.dropLast_concat
  have h2 : ((z1 :: r) ++ [z]).getLastD (0, 0) = z := by rw [List.getLastD_eq_getLast?, List.getLast?_concat]; rfl
  unfold popF
  rw [h1, h2]
set_option maxRecDepth 100000 in
set_option maxHeartbeats 8000000 in
theorem pop_tells {w : World} {l : Addr} {vs : List Value} {ps : List PP} {n : Nat} {rest tl : List (Addr × Obj)} (hv : HV tl vs ps) (hl : ps.length < 2 ^ 20) (h0 : 0 < ps.length) (hsub : ∀ z ∈ tl, z ∈ rest) (hoff : ∀ p ∈ rest, p.1 ≠ l) :
    Tells w 39 3 [.ref l] ((l, listOf vs.toArray n) :: rest) (fun v news' => TupAt tl v (popF ps).1 ∧ ∃ vs' n', HV tl vs' (popF ps).2 ∧ news' = (l, listOf vs'.toArray n') :: rest) := by
  obtain ⟨p, y, pp, z, rfl, rfl, hp, hy⟩ := hv.snoc h0
  k_with_none
  k_with "mine idx" => ((try dsimp only at *); first | omega | (simp only [List.length_set] at *; omega) | exact shG3 (by omega) | exact shG2 (by omega) (by omega) | exact shG1 (by omega) (by omega) | (rw [sh1 _ (by omega)]; omega) | ((have hE9 := len_of_ne (by assumption)); omega))
  k_with "mine subscriptTail" => (refine my_item (by k_asm) (by k_mem) (by walk_at "mine idx") (by walk_at "mine idx") (by walk_at "mine idx") ?_)
  k_with "mine setItem ref int" => (refine my_set (by k_asm) (by k_asm) (by assumption) (by walk_at "mine idx") (by walk_at "mine idx") (by walk_at "mine idx") ?_; intro h' F' N'; (try k_sweep))
  k_with "mine MyPost" => (dsimp only [MyPost])
  k_with "mine exec While" => refine stop_out ?_
  k_with "mine exec While Compare cons nil" => refine stop_out ?_
  k_with "mine exec While BoolOp cons nil" => refine stop_out ?_
  k_with "mine tup" => first | assumption | exact HV.at (by assumption) (by walk_at "mine idx")
  k_with "mine compareOp Lt" => (refine lt_tup (by k_asm) (by walk_at "mine tup") (by walk_at "mine tup") (fun z hz => List.Mem.tail _ (by first | exact hz | exact (by assumption : ∀ z ∈ _, z ∈ _) z hz)) (by ktr_units) ?_)
  k_with "mine call ref" => refine stop_out ?_
  k_with "mine call builtin:len" => (k_here; (with_reducible show wpAny _ _ (call (Value.builtin "len") [Value.ref _]) _ _ _); k_dflt (refine' kst_len ?k1 ?k2 ?k3 ?k4 ?_; (case k1 => k_asm); (case k2 => k_mem); (case k3 => exact HV.len (by assumption)); (case k4 => omega); k_whole); (try intro _))
  k_with "mine call builtin:list.pop" => refine stop_out ?_
  (w_top off; unfold Tells; dsimp only [K0, P0, l0, pr]; k_fill)
  intro dp un gd cn cs a ccd cl outer A₀ base h₀ L m s mean mg mb Q E B F X N T hk hd hu hret
  have hvl := hp.1
  simp only [List.length_append, List.length_cons, List.length_nil] at hl
  (refine wpAny_call ?_; k_dflt (refine' code_def ?k1 ?k2 ?k3 ?k4 ?k5 ?kA ?kF ?kK ?k6 ?k7 ?k8 ?k9 ?kB ?_ ?c2 ?c3 ?c4 ?c5; (case kA => exact rfl); (case kF => exact rfl); (case kK => assumption); (case k1 => k_asm); (case k2 => k_asm); (case k3 => k_asm); (case k4 => k_asm); (case k5 => k_asm); (case k6 => k_is); (case k7 => k_is); (case k8 => ktr_room); (case k9 => first | exact BindsTo.of_eq rfl | exact binds_K (by k_in) rfl (by k_is) rfl rfl rfl | (refine' kp_binds ?kx ?ke; (case kx => k_in); (case ke => exact fun _ => rfl))); (case c5 => decide); (case kB => exact locs rfl); (case c2 => exact rfl); (case c3 => exact rfl); (case c4 => exact rfl); k_whole; intro g' L' h' FG' F' N' B' X' T'; (try dsimp only); (try k_lift B'); (try k_fold)))
  k_steps
  unfold Stop
  refine kl_pop (by k_asm) (by k_asm) (by simpa using kl_last_snoc p y) (Upd.head hoff) (by rw [PySem.sizeLine_eq]; simp; omega) ?_
  intro h1 F1 N1
  k_steps
  · have e : pp = [] := List.eq_nil_of_length_eq_zero (by rw [← hvl]; simpa using ‹p.isEmpty = true›)
    subst e
    have e2 : p = [] := List.eq_nil_of_length_eq_zero hvl
    subst e2
    rw [popF_one] at hret
    exact hret _ _ _ _ ⟨hy, _, _, hp, rfl⟩ (by assumption) (by assumption)
  · have hpos := len_of_ne ‹p.isEmpty = false›
    obtain ⟨z1, r, rfl⟩ : ∃ z1 r, pp = z1 :: r := by
      cases pp with
      | nil => rw [List.length_nil] at hvl; omega
      | cons a b => exact ⟨a, b, rfl⟩
    unfold Stop
    rw [popF_more] at hret
    with_unfolding_all refine tells_use (siftup_tells (ps := z :: r) (by first | exact hp.set (k := 0) (p := z) (by simp) hy) (by simp at hl ⊢; omega) (by omega) (by simp) hsub hoff) (by k_asm) (by k_asm) (by k_asm) (by k_asm) (by k_asm) (by rfl) (by ktr_room) (by ktr_units) ?_
    rintro v h2 tk2 news2 ⟨rfl, vs2, hv2, rfl⟩ F2 N2
    dsimp only
    k_steps
    exact hret _ _ _ _ ⟨hp.at (k := 0) (by simp), _, _, hv2, rfl⟩ (by assumption) (by assumption)
end
-- Heap4
section
noncomputable def heapF (ps : List PP) : Nat → List PP
  | 0 => ps
  | k + 1 => heapF (sup k (ps.getD k (0, 0)) k ps) k
theorem sdn_len (start : Nat) (x : PP) : ∀ (pos : Nat) (hs : List PP), (sdn start x pos hs).length = hs.length := by
  intro pos
  induction pos using Nat.strongRecOn with
  | ind pos ih =>
    intro hs
    rw [sdn]
    split
    · split
      · rw [ih _ (by omega)]; simp
      · simp
    · simp
theorem sup_len (start : Nat) (x : PP) : ∀ (k pos : Nat) (hs : List PP), hs.length - pos ≤ k → (sup start x pos hs).length = hs.length := by
  intro k
  induction k with
  | zero =>
    intro pos hs h
    rw [sup, dif_neg (by omega), sdn_len]; simp
  | succ k ih =>
    intro pos hs h
    rw [sup]
    split
    · split
      · rw [ih _ _ (by simp; omega)]; simp
      · rw [ih _ _ (by simp; omega)]; simp
    · rw [sdn_len]; simp
set_option maxRecDepth 100000 in
set_option maxHeartbeats 8000000 in
theorem heapify_tells {w : World} {l : Addr} {vs : List Value} {ps : List PP} {n : Nat} {rest tl : List (Addr × Obj)} (hv : HV tl vs ps) (hl : ps.length < 2 ^ 20) (hsub : ∀ z ∈ tl, z ∈ rest) (hoff : ∀ p ∈ rest, p.1 ≠ l) :
    Tells w 46 3 [.ref l] ((l, listOf vs.toArray n) :: rest) (fun v news' => v = .none ∧ ∃ vs', HV tl vs' (heapF ps (ps.length / 2)) ∧ news' = (l, listOf vs'.toArray n) :: rest) := by
  k_with_none
  k_with "mine idx" => ((try dsimp only at *); first | omega | (simp only [List.length_set] at *; omega) | exact shG3 (by omega) | exact shG2 (by omega) (by omega) | exact shG1 (by omega) (by omega) | (rw [sh1 _ (by omega)]; omega) | ((have hE9 := len_of_ne (by assumption)); omega))
  k_with "mine subscriptTail" => (refine my_item (by k_asm) (by k_mem) (by walk_at "mine idx") (by walk_at "mine idx") (by walk_at "mine idx") ?_)
  k_with "mine setItem ref int" => (refine my_set (by k_asm) (by k_asm) (by assumption) (by walk_at "mine idx") (by walk_at "mine idx") (by walk_at "mine idx") ?_; intro h' F' N'; (try k_sweep))
  k_with "mine MyPost" => (dsimp only [MyPost])
  k_with "mine exec While" => refine stop_out ?_
  k_with "mine exec While Compare cons nil" => refine stop_out ?_
  k_with "mine exec While BoolOp cons nil" => refine stop_out ?_
  k_with "mine tup" => first | assumption | exact HV.at (by assumption) (by walk_at "mine idx")
  k_with "mine compareOp Lt" => (refine lt_tup (by k_asm) (by walk_at "mine tup") (by walk_at "mine tup") (fun z hz => List.Mem.tail _ (by first | exact hz | exact (by assumption : ∀ z ∈ _, z ∈ _) z hz)) (by ktr_units) ?_)
  k_with "mine call ref" => refine stop_out ?_
  k_with "mine call builtin:len" => (k_here; (with_reducible show wpAny _ _ (call (Value.builtin "len") [Value.ref _]) _ _ _); k_dflt (refine' kst_len ?k1 ?k2 ?k3 ?k4 ?_; (case k1 => k_asm); (case k2 => k_mem); (case k3 => exact HV.len (by assumption)); (case k4 => omega); k_whole); (try intro _))
  k_with "mine exec For" => refine stop_out ?_
  k_with "mine exec For Name Call cons nil" => refine stop_out ?_
  k_with "mine FPost" => (dsimp only [FPost])
  (w_top off; unfold Tells; dsimp only [K0, P0, l0, pr]; k_fill)
  intro dp un gd cn cs a ccd cl outer A₀ base h₀ L m s mean mg mb Q E B F X N T hk hd hu hret
  have hvl := hv.1
  (refine wpAny_call ?_; k_dflt (refine' code_def ?k1 ?k2 ?k3 ?k4 ?k5 ?kA ?kF ?kK ?k6 ?k7 ?k8 ?k9 ?kB ?_ ?c2 ?c3 ?c4 ?c5; (case kA => exact rfl); (case kF => exact rfl); (case kK => assumption); (case k1 => k_asm); (case k2 => k_asm); (case k3 => k_asm); (case k4 => k_asm); (case k5 => k_asm); (case k6 => k_is); (case k7 => k_is); (case k8 => ktr_room); (case k9 => first | exact BindsTo.of_eq rfl | exact binds_K (by k_in) rfl (by k_is) rfl rfl rfl | (refine' kp_binds ?kx ?ke; (case kx => k_in); (case ke => exact fun _ => rfl))); (case c5 => decide); (case kB => exact locs rfl); (case c2 => exact rfl); (case c3 => exact rfl); (case c4 => exact rfl); k_whole; intro g' L' h' FG' F' N' B' X' T'; (try dsimp only); (try k_lift B'); (try k_fold)))
  k_steps
  unfold Stop
  (rename Fr _ _ _ _ => lF')
  with_unfolding_all refine' For_invVF lF' ?k1 ?k2 ?_
  case k1 => exact rfl
  case k2 => exact rfl
  k_steps
  rename IsRange _ _ _ _ _ _ _ _ => hR
  have e2 : ((ps.length : Int)).fdiv 2 = ((ps.length / 2 : Nat) : Int) := by rw [Int.fdiv_eq_ediv_of_nonneg _ (by omega)]; omega
  rw [e2] at hR
  refine call_reversed_range hR (by omega) (by omega) ?_
  (rename Fr _ _ _ _ => lF2); (rename News _ _ _ _ => lN2)
  with_unfolding_all refine' for_ri (σ := List Value × List PP) (n := ps.length / 2) (fun c => (l, listOf c.1.toArray n) :: rest) (fun c => []) (fun _ => True) [] (fun i c => HV tl c.1 c.2 ∧ c.2.length = ps.length ∧ heapF c.2 (ps.length / 2 - i) = heapF ps (ps.length / 2)) (vs, ps) rfl (Heap.get?_push_size _ rfl) (next_is_new lF2) (Nat.ne_of_gt lF2.ns.lt) ?ka (lF2.push _) (fun p hp => ⟨Heap.get?_push_of_some _ (lN2 p hp).1, (lN2 p hp).2⟩) trivial (List.forall_mem_nil _) ⟨hv, rfl, rfl⟩ ?kt ?kd
  case ka => exact fun p hp => Nat.ne_of_lt (Heap.lt_size (lN2 p hp).1)
  case kt =>
    rintro i ⟨vs1, ps1⟩ t u h1 tk1 own hi ho hadr _ ⟨hv1, hl1, hr1⟩ F1 N1
    dsimp only [kstB, envOf, List.cons_append, List.map_cons] at hv1 hl1 hr1 F1 N1 ho
    have e3 : ((ps.length / 2 : Nat) : Int) - 1 + (i : Int) * -1 = ((ps.length / 2 - i - 1 : Nat) : Int) := by omega
    rw [e3] at F1
    have hoff2 : ∀ p ∈ rest ++ own, p.1 ≠ l := fun p hp => by
      rcases List.mem_append.mp hp with h | h
      · exact hoff p h
      · exact ho p h l (.head _)
    have hk2 : ps.length / 2 - i - 1 < ps1.length := by omega
    k_steps
    unfold Stop
    with_unfolding_all refine tells_use (siftup_tells hv1 (by omega) (Int.natCast_nonneg _) (by omega) (fun z hz => List.mem_append.mpr (.inl (hsub z hz))) hoff2) (by k_asm) (by k_asm) (by k_asm) (by k_asm) (by k_asm) (by rfl) (by ktr_room) (by ktr_units) ?_
    rintro v h2 tk2 news2 ⟨rfl, vs2, hv2, rfl⟩ F2 N2
    dsimp only
    k_steps
    simp only [Int.toNat_natCast] at hv2
    refine f_end ⟨vs2, sup (ps.length / 2 - i - 1) (ps1.getD (ps.length / 2 - i - 1) (0, 0)) (ps.length / 2 - i - 1) ps1⟩ (by assumption) (by assumption) ?_ ?_ rfl trivial (List.forall_mem_nil _) ?_ ⟨hv2, (sup_len _ _ _ _ _ (Nat.le_refl _)).trans hl1, ?_⟩
    · intro p hp
      rcases List.mem_cons.mp hp with rfl | h
      · exact .head _
      · exact .tail _ (List.mem_append.mpr (.inl h))
    · intro p hp; exact .tail _ (List.mem_append.mpr (.inr hp))
    · intro z h1 _ h3; simp [h1]
    · rw [← hr1]
      have e4 : ps.length / 2 - i = (ps.length / 2 - i - 1) + 1 := by omega
      have e5 : ps.length / 2 - (i + 1) = ps.length / 2 - i - 1 := by omega
      conv => rhs; rw [e4]; unfold heapF
      rw [e5]
  case kd =>
    rintro ⟨vs1, ps1⟩ u h1 tk1 _ ⟨hv1, hl1, hr1⟩ F1 N1
    dsimp only [kstB, envOf, List.cons_append, List.map_cons] at hv1 hl1 hr1 F1 N1
    rw [Nat.sub_self] at hr1
    dsimp only
    k_steps
    exact hret _ _ _ _ ⟨rfl, _, by rw [← hr1]; exact hv1, rfl⟩ (by assumption) (by assumption)
end
-- StrR
section
set_option maxRecDepth 100000
theorem S_len (l : List Nat) : (S l).length = l.length := by show l.toArray.size = l.length; simp
theorem sl_nn (x : Str) : Txt.slice x none none = x := by
  unfold Txt.slice
  rw [if_pos]
  unfold Builtin.Str.strSliceIndices sliceRange
  simp
  omega
theorem sl_sn {l : List Nat} {k : Int} (h0 : 0 ≤ k) (h1 : k ≤ l.length) : Txt.slice (S l) (some k) none = S (l.drop k.toNat) := by
  rw [slice_from_eq (b := l.length) h0 (by rw [S_len]; exact h1) (by rw [S_len])]
  show Str.mk _ = Str.mk _
  rw [List.take_of_length_le (by rw [List.length_drop]; show l.toArray.toList.length - _ ≤ _; simp; omega)]
theorem sl_ss {l : List Nat} {i j : Int} (h0 : 0 ≤ i) (h1 : i ≤ j) (h2 : j ≤ l.length) : Txt.slice (S l) (some i) (some j) = S ((l.drop i.toNat).take (j - i).toNat) := by
  have := slice_closesL (x := S l) h0 h1 (by rw [S_len]; exact h2)
  have e := eq_of_beq this
  rw [e]
theorem sl_ns {l : List Nat} {j : Int} (h0 : 0 ≤ j) (h2 : j ≤ l.length) : Txt.slice (S l) none (some j) = S (l.take j.toNat) := by
  have := slice_closes_toL (x := S l) h0 (by rw [S_len]; exact h2)
  have e := eq_of_beq this
  rw [e]
  simp
theorem sl_neg {l : List Nat} {j : Int} (h0 : j < 0) (h2 : -(l.length : Int) ≤ j) : Txt.slice (S l) none (some j) = S (l.take (j + l.length).toNat) := by
  rw [← sl_ns (l := l) (j := j + l.length) (by omega) (by omega)]
  unfold Txt.slice
  have e : Builtin.Str.strSliceIndices none (some j) 1 (S l).length = Builtin.Str.strSliceIndices none (some (j + l.length)) 1 (S l).length := by
    unfold Builtin.Str.strSliceIndices
    rw [S_len]
    simp only [h0, if_true]
    rw [if_neg (show ¬ (j + (l.length : Int)) < 0 by omega)]
  rw [e]
theorem it_pos {l : List Nat} {k : Int} (h0 : 0 ≤ k) (h1 : k < l.length) : Txt.item (S l) k = S [l.getD k.toNat 0] := by
  unfold Txt.item Txt.charAt
  rw [S_len, seqIndex_of h0 h1]
  show Str.mk #[((S l).cps[k.toNat]?).getD 0] = Str.mk _
  rw [List.getD_eq_getElem?_getD]
  congr 1
  simp
theorem it_neg {l : List Nat} {k : Int} (h0 : k < 0) (h1 : -(l.length : Int) ≤ k) : Txt.item (S l) k = S [l.getD (k + l.length).toNat 0] := by
  unfold Txt.item Txt.charAt
  rw [S_len, seqIndex_neg h0 h1]
  show Str.mk #[((S l).cps[(k + l.length).toNat]?).getD 0] = Str.mk _
  rw [List.getD_eq_getElem?_getD]
  congr 1
  simp
section
variable {prog : Program} {w : World} {A : Around} {E : Value → Shared → Prop} {s : Shared} {h₀ : Heap} {L : Addr} {m : Str → Option Value} {news : List (Addr × Obj)} {value slice : PySem.Expr} {l : List Nat} {t : Tok} {Q : Value → Shared → Prop}
theorem my_nn (hF : Fr h₀ L s.heap m) (hN : News h₀ L s.heap news) (hl : l.length ≤ 16) (h : ∀ h' t' k, Fr h₀ L h' m → News h₀ L h' news → Q (.str (S l) t') { s with heap := h', toks := k })
    (hs : subscripted slice false (.str (S l) t) (.ref s.heap.objs.size) = operate [.ref s.heap.objs.size, .str (S l) t] (getItem (.str (S l) t) (.ref s.heap.objs.size)) := by with_unfolding_all rfl)
    (ht : ∀ r, letTemporaryGo value (.str (S l) t) r = pure () := by intro _; with_unfolding_all rfl) :
    wpAny (model prog w) A (subscriptTail value slice (.str (S l) t) (.ref s.heap.objs.size)) Q E { s with heap := s.heap.push { cls := .type "slice", data := .fields #[.none, .none, .none] } } :=
  slice_strN_nn hF hN (fun h' t' k a b => by rw [sl_nn]; exact h h' t' k a b) hs ht (by rw [S_len, PySem.sizeLine_eq]; omega)
theorem my_neg {j : Int} {uj : Tok} (hF : Fr h₀ L s.heap m) (hN : News h₀ L s.heap news) (hl : l.length ≤ 16) (h0 : j < 0) (h2 : -(l.length : Int) ≤ j) (h : ∀ h' t' k, Fr h₀ L h' m → News h₀ L h' news → Q (.str (S (l.take (j + l.length).toNat)) t') { s with heap := h', toks := k })
    (hs : subscripted slice false (.str (S l) t) (.ref s.heap.objs.size) = operate [.ref s.heap.objs.size, .str (S l) t] (getItem (.str (S l) t) (.ref s.heap.objs.size)) := by with_unfolding_all rfl)
    (ht : ∀ r, letTemporaryGo value (.str (S l) t) r = pure () := by intro _; with_unfolding_all rfl) :
    wpAny (model prog w) A (subscriptTail value slice (.str (S l) t) (.ref s.heap.objs.size)) Q E { s with heap := s.heap.push { cls := .type "slice", data := .fields #[.none, .int j uj, .none] } } :=
  slice_strN_ns hF hN (fun h' t' k a b => by rw [sl_neg h0 h2]; exact h h' t' k a b) hs ht (by rw [S_len, PySem.sizeLine_eq]; omega)
theorem my_sn {j : Int} {uj : Tok} (hF : Fr h₀ L s.heap m) (hN : News h₀ L s.heap news) (hl : l.length ≤ 16) (h0 : 0 ≤ j) (h2 : j ≤ l.length) (h : ∀ h' t' k, Fr h₀ L h' m → News h₀ L h' news → Q (.str (S (l.drop j.toNat)) t') { s with heap := h', toks := k })
    (hs : subscripted slice false (.str (S l) t) (.ref s.heap.objs.size) = operate [.ref s.heap.objs.size, .str (S l) t] (getItem (.str (S l) t) (.ref s.heap.objs.size)) := by with_unfolding_all rfl)
    (ht : ∀ r, letTemporaryGo value (.str (S l) t) r = pure () := by intro _; with_unfolding_all rfl) :
    wpAny (model prog w) A (subscriptTail value slice (.str (S l) t) (.ref s.heap.objs.size)) Q E { s with heap := s.heap.push { cls := .type "slice", data := .fields #[.int j uj, .none, .none] } } :=
  slice_strN_sn hF hN (fun h' t' k a b => by rw [sl_sn h0 h2]; exact h h' t' k a b) hs ht (by rw [S_len, PySem.sizeLine_eq]; omega)
theorem my_ss {i j : Int} {ui uj : Tok} (hF : Fr h₀ L s.heap m) (hN : News h₀ L s.heap news) (hl : l.length ≤ 16) (h0 : 0 ≤ i) (h1 : i ≤ j) (h2 : j ≤ l.length) (h : ∀ h' t' k, Fr h₀ L h' m → News h₀ L h' news → Q (.str (S ((l.drop i.toNat).take (j - i).toNat)) t') { s with heap := h', toks := k })
    (hs : subscripted slice false (.str (S l) t) (.ref s.heap.objs.size) = operate [.ref s.heap.objs.size, .str (S l) t] (getItem (.str (S l) t) (.ref s.heap.objs.size)) := by with_unfolding_all rfl)
    (ht : ∀ r, letTemporaryGo value (.str (S l) t) r = pure () := by intro _; with_unfolding_all rfl) :
    wpAny (model prog w) A (subscriptTail value slice (.str (S l) t) (.ref s.heap.objs.size)) Q E { s with heap := s.heap.push { cls := .type "slice", data := .fields #[.int i ui, .int j uj, .none] } } :=
  slice_strN_ss hF hN (fun h' t' k a b => by rw [sl_ss h0 h1 h2]; exact h h' t' k a b) hs ht (by rw [S_len, PySem.sizeLine_eq]; omega)
theorem my_it {i : Int} {u : Tok} (hl : l.length ≤ 16) (h0 : 0 ≤ i) (h1 : i < l.length) (h : ∀ t k, Q (.str (S [l.getD i.toNat 0]) t) { s with toks := k })
    (hs : subscripted slice false (.str (S l) t) (.int i u) = operate [.str (S l) t, .int i u] (getItem (.str (S l) t) (.int i u)) := by with_unfolding_all rfl)
    (ht : ∀ r, letTemporaryGo value (.str (S l) t) r = pure () := by intro _; with_unfolding_all rfl) :
    wpAny (model prog w) A (subscriptTail value slice (.str (S l) t) (.int i u)) Q E s :=
  item_str (fitsSsize_of (N := 16) (by omega) (by omega) (by decide)) (by rw [S_len]; omega) (by rw [S_len]; exact h1) (fun _ => by rw [it_pos h0 h1]; exact h _ _) hs ht
theorem my_itneg {i : Int} {u : Tok} (hl : l.length ≤ 16) (h0 : i < 0) (h1 : -(l.length : Int) ≤ i) (h : ∀ t k, Q (.str (S [l.getD (i + l.length).toNat 0]) t) { s with toks := k })
    (hs : subscripted slice false (.str (S l) t) (.int i u) = operate [.str (S l) t, .int i u] (getItem (.str (S l) t) (.int i u)) := by with_unfolding_all rfl)
    (ht : ∀ r, letTemporaryGo value (.str (S l) t) r = pure () := by intro _; with_unfolding_all rfl) :
    wpAny (model prog w) A (subscriptTail value slice (.str (S l) t) (.int i u)) Q E s :=
  item_str (fitsSsize_of (N := 17) (by omega) (by omega) (by decide)) (by rw [S_len]; exact h1) (by rw [S_len]; omega) (fun _ => by rw [it_neg h0 h1]; exact h _ _) hs ht
theorem my_strue {Q : Bool → Shared → Prop} (hl : l.length ≤ 16) (h : ∀ k, Q (decide (0 < l.length)) { s with toks := k }) : wpAny (model prog w) A (truthy (.str (S l) t)) Q E s := by
  refine PySem.P.truthy_str (by rw [S_len]; omega) ?_
  have e : (((S l).length : Int) != 0) = decide (0 < l.length) := by
    rw [S_len]
    by_cases hz : 0 < l.length
    · rw [decide_eq_true hz]; simp; intro e; rw [e] at hz; simp at hz
    · rw [decide_eq_false hz]
      have : l = [] := List.eq_nil_of_length_eq_zero (by omega)
      subst this; rfl
  rw [e]; exact h _
theorem my_slen (hl : l.length ≤ 16) (h : ∀ t k, Q (.int (l.length : Int) t) { s with toks := k }) : wpAny (model prog w) A (call (.builtin "len") [.str (S l) t]) Q E s := by
  refine PySem.P.len_str (by rw [S_len]; omega) ?_
  rw [S_len]
  exact h _ _
end
end
-- ListR
section
set_option maxRecDepth 100000
theorem ints_of : ∀ (vs : List Value) (f : Nat → Int), (∀ (j : Nat) (v : Value), vs[j]? = some v → ∃ t, v = .int (f j) t) → IntsAre vs ((List.range vs.length).map f)
  | [], _, _ => .nil
  | v :: r, f, h => by
    obtain ⟨t, e⟩ := h 0 v rfl
    subst e
    rw [List.length_cons, List.range_succ_eq_map, List.map_cons, List.map_map]
    exact .cons _ _ (ints_of r (f ∘ Nat.succ) fun j v hj => h (j + 1) v (by simpa using hj))
section
variable {prog : Program} {w : World} {A : Around} {E : Value → Shared → Prop} {s : Shared} {h₀ : Heap} {L r : Addr} {m : Str → Option Value} {news : List (Addr × Obj)} {a b d : Int} {t₀ u₀ v₀ : Tok} {n : Nat} {Q : Value → Shared → Prop}
theorem my_listrange (hh : A.handled = none) (F : Fr h₀ L s.heap m) (N : News h₀ L s.heap news) (hr : IsRange s.heap r a b d t₀ u₀ v₀) (hsmall : Builtin.Range.small a b d = true) (hn : Builtin.Range.rangeSize a b d = (n : Int)) (hz : n ≤ 2 ^ 24)
    (h : ∀ D us c h' tk, Fr h₀ L h' m → News h₀ L h' ((D, listOf (List.toArray us) c) :: news) → (∀ p ∈ news, p.1 < D) → IntsAre us ((List.range n).map fun i : Nat => a + (i : Int) * d) → Q (.ref D) { s with heap := h', toks := tk }) :
    wpAny (model prog w) A (call (.type "list") [.ref r]) Q E s := by
  refine call_list_range hh hr hsmall hn hz fun h' tk acc c hk hD hI => ?_
  have hD' : h'.get? s.heap.objs.size = some (listOf (List.toArray acc.toList) c) := by
    rw [Array.toArray_toList]
    exact hD
  refine h _ acc.toList c h' tk (F.keeps hk) (news_pushed F N hk hD' rfl) (fun p hp => Heap.lt_size (N p hp).1) ?_
  have := ints_of acc.toList (fun j => a + (j : Int) * d) fun j v hj => hI.2 j v (by rw [← hj, Array.getElem?_toList])
  rwa [Array.length_toList, hI.1] at this
end
theorem small2 (n : Nat) (h : n ≤ 8) : Builtin.Range.small 2 (2 * ((n : Int) + 1)) 2 = true ∧ Builtin.Range.rangeSize 2 (2 * ((n : Int) + 1)) 2 = (n : Int) := by
  have : ∀ n : Nat, n < 9 → Builtin.Range.small 2 (2 * ((n : Int) + 1)) 2 = true ∧ Builtin.Range.rangeSize 2 (2 * ((n : Int) + 1)) 2 = (n : Int) := by decide
  exact this n (Nat.lt_succ_of_le h)
theorem small1 (n : Nat) (h : n ≤ 16) : Builtin.Range.small 0 (n : Int) 1 = true ∧ Builtin.Range.rangeSize 0 (n : Int) 1 = (n : Int) := by
  have : ∀ n : Nat, n < 17 → Builtin.Range.small 0 (n : Int) 1 = true ∧ Builtin.Range.rangeSize 0 (n : Int) 1 = (n : Int) := by decide
  exact this n (Nat.lt_succ_of_le h)
end
-- Lev
section
noncomputable def cv (d res r c : Int) : Int := if d + c < (if r < res then r else res) + 2 then d + c else (if r < res then r else res) + 2
/-- one row of the table, cell by cell -/
noncomputable def cellsF (bc : Nat) : List Nat → List Int → Int → Int → Int → List Int × Int × Int
  | x :: as, r :: rs, d, res, mn =>
    (cv d res r (cost bc x) :: (cellsF bc as rs r (cv d res r (cost bc x)) (if cv d res r (cost bc x) < mn then cv d res r (cost bc x) else mn)).1,
      (cellsF bc as rs r (cv d res r (cost bc x)) (if cv d res r (cost bc x) < mn then cv d res r (cost bc x) else mn)).2)
  | _, rs, _, res, mn => (rs, res, mn)
theorem cells_nil (bc : Nat) (rs : List Int) (d res mn : Int) : cellsF bc [] rs d res mn = (rs, res, mn) := by unfold cellsF; rfl
noncomputable def rowsF (as : List Nat) (mx : Int) : List Nat → Int → List Int → Int → Int
  | [], _, _, res => res
  | bc :: bs, i, row, _ => if (cellsF bc as row (i * 2) (i * 2) 9223372036854775807).2.2 > mx then mx + 1
    else rowsF as mx bs (i + 1) (cellsF bc as row (i * 2) (i * 2) 9223372036854775807).1 (cellsF bc as row (i * 2) (i * 2) 9223372036854775807).2.1
theorem dropG {α : Type} (l : List α) (j : Nat) (d : α) (h : j < l.length) : l.drop j = l.getD j d :: l.drop (j + 1) := by
  rw [List.drop_eq_getElem_cons h, List.getD_eq_getElem?_getD, List.getElem?_eq_getElem h]; rfl
theorem cells_step {bc : Nat} {as : List Nat} {row : List Int} {j : Nat} {d res mn v mn' : Int} (h1 : j < as.length) (h2 : j < row.length) (hv : v = cv d res (row.getD j 0) (cost bc (as.getD j 0))) (hm : mn' = if v < mn then v else mn) :
    (row.set j v).take (j + 1) ++ (cellsF bc (as.drop (j + 1)) ((row.set j v).drop (j + 1)) (row.getD j 0) v mn').1 = row.take j ++ (cellsF bc (as.drop j) (row.drop j) d res mn).1 ∧
    (cellsF bc (as.drop (j + 1)) ((row.set j v).drop (j + 1)) (row.getD j 0) v mn').2 = (cellsF bc (as.drop j) (row.drop j) d res mn).2 := by
  have e1 : (row.set j v).take (j + 1) = row.take j ++ [v] := by
    rw [List.take_add_one, List.getElem?_set_self h2, List.take_set, List.set_eq_of_length_le (by rw [List.length_take]; omega)]; rfl
  have e2 : (row.set j v).drop (j + 1) = row.drop (j + 1) := by rw [List.drop_set]; simp
  rw [e1, e2, dropG as j 0 h1, dropG row j 0 h2, cellsF, List.append_assoc, ← hv, hm]
  exact ⟨rfl, rfl⟩
theorem rows_step {as : List Nat} {mx : Int} {bs : List Nat} {i : Nat} {row : List Int} {res : Int} (h : i < bs.length) :
    rowsF as mx (bs.drop i) i row res = if (cellsF (bs.getD i 0) as row (i * 2) (i * 2) 9223372036854775807).2.2 > mx then mx + 1
    else rowsF as mx (bs.drop (i + 1)) ((i : Int) + 1) (cellsF (bs.getD i 0) as row (i * 2) (i * 2) 9223372036854775807).1 (cellsF (bs.getD i 0) as row (i * 2) (i * 2) 9223372036854775807).2.1 := by
  rw [dropG bs i 0 h, rowsF]
noncomputable def row0 (n : Nat) : List Int := (List.range n).map fun i : Nat => 2 * ((i : Int) + 1)
noncomputable def dpF (p : List Nat × List Nat) (mx : Int) : Int := if ((p.2.length : Int) - p.1.length) * 2 > mx then mx + 1 else rowsF p.1 mx p.2 0 (row0 p.1.length) 0
noncomputable def cp : List Nat → List Nat → Nat
  | x :: xs, y :: ys => if x = y then cp xs ys + 1 else 0
  | _, _ => 0
theorem cp_le1 : ∀ la lb, cp la lb ≤ la.length
  | [], _ => by unfold cp; exact Nat.zero_le _
  | _ :: _, [] => by unfold cp; exact Nat.zero_le _
  | x :: xs, y :: ys => by
    unfold cp
    have := cp_le1 xs ys
    split
    · rw [List.length_cons]; omega
    · exact Nat.zero_le _
theorem cp_le2 : ∀ la lb, cp la lb ≤ lb.length
  | [], _ => by unfold cp; exact Nat.zero_le _
  | _ :: _, [] => by unfold cp; exact Nat.zero_le _
  | x :: xs, y :: ys => by
    unfold cp
    have := cp_le2 xs ys
    split
    · rw [List.length_cons]; omega
    · exact Nat.zero_le _
theorem drop_head {l : List Nat} {k : Nat} (h : k < l.length) : l.drop k = l.getD k 0 :: l.drop (k + 1) := by
  rw [List.drop_eq_getElem_cons h, List.getD_eq_getElem?_getD, List.getElem?_eq_getElem h]; rfl
theorem cp_step {la lb : List Nat} {k : Nat} (h1 : k < la.length) (h2 : k < lb.length) (e : la.getD k 0 = lb.getD k 0) : cp (la.drop k) (lb.drop k) = cp (la.drop (k + 1)) (lb.drop (k + 1)) + 1 := by
  rw [drop_head h1, drop_head h2, cp, if_pos e]
theorem cp_diff {la lb : List Nat} {k : Nat} (h1 : k < la.length) (h2 : k < lb.length) (e : ¬ la.getD k 0 = lb.getD k 0) : cp (la.drop k) (lb.drop k) = 0 := by
  rw [drop_head h1, drop_head h2, cp, if_neg e]
theorem cp_end1 {la lb : List Nat} {k : Nat} (h1 : la.length ≤ k) : cp (la.drop k) (lb.drop k) = 0 := by
  rw [List.drop_eq_nil_of_le h1]; unfold cp; rfl
theorem cp_end2 {la lb : List Nat} {k : Nat} (h1 : lb.length ≤ k) : cp (la.drop k) (lb.drop k) = 0 := by
  rw [List.drop_eq_nil_of_le h1]; unfold cp; split <;> first | rfl | contradiction
theorem rev_getD {l : List Nat} {q : Int} (h0 : q ≤ 0) (h1 : -(l.length : Int) < q) : l.reverse.getD (-q).toNat 0 = l.getD (q - 1 + l.length).toNat 0 := by
  rw [List.getD_eq_getElem?_getD, List.getD_eq_getElem?_getD, List.getElem?_reverse (by omega)]
  congr 2
  omega
theorem rev_step {l1 l2 : List Nat} {q : Int} (h0 : q ≤ 0) (h1 : -(l1.length : Int) < q) (h2 : -(l2.length : Int) < q) (e : l1.getD (q - 1 + l1.length).toNat 0 = l2.getD (q - 1 + l2.length).toNat 0)
    (hr : cp (l1.reverse.drop (-q).toNat) (l2.reverse.drop (-q).toNat) + (-q).toNat = cp l1.reverse l2.reverse) : cp (l1.reverse.drop (-(q - 1)).toNat) (l2.reverse.drop (-(q - 1)).toNat) + (-(q - 1)).toNat = cp l1.reverse l2.reverse := by
  rw [← rev_getD h0 h1, ← rev_getD h0 h2] at e
  rw [← hr, cp_step (la := l1.reverse) (lb := l2.reverse) (k := (-q).toNat) (by rw [List.length_reverse]; omega) (by rw [List.length_reverse]; omega) e, show (-(q - 1)).toNat = (-q).toNat + 1 by omega]
  omega
theorem rev_diff {l1 l2 : List Nat} {q : Int} (h0 : q ≤ 0) (h1 : -(l1.length : Int) < q) (h2 : -(l2.length : Int) < q) (e : ¬ l1.getD (q - 1 + l1.length).toNat 0 = l2.getD (q - 1 + l2.length).toNat 0)
    (hr : cp (l1.reverse.drop (-q).toNat) (l2.reverse.drop (-q).toNat) + (-q).toNat = cp l1.reverse l2.reverse) : q = -(cp l1.reverse l2.reverse : Int) := by
  rw [← rev_getD h0 h1, ← rev_getD h0 h2] at e
  rw [cp_diff (la := l1.reverse) (lb := l2.reverse) (k := (-q).toNat) (by rw [List.length_reverse]; omega) (by rw [List.length_reverse]; omega) e] at hr
  omega
theorem rev_end {l1 l2 : List Nat} {q : Int} (h0 : q ≤ 0) (h : q ≤ -(l1.length : Int) ∨ q ≤ -(l2.length : Int))
    (hr : cp (l1.reverse.drop (-q).toNat) (l2.reverse.drop (-q).toNat) + (-q).toNat = cp l1.reverse l2.reverse) : q = -(cp l1.reverse l2.reverse : Int) := by
  rcases h with h | h
  · rw [cp_end1 (by rw [List.length_reverse]; omega)] at hr; omega
  · rw [cp_end2 (by rw [List.length_reverse]; omega)] at hr; omega
theorem pos_of {q : Int} {n : Nat} (h : 0 < min (q + (n : Int)).toNat n) : -(n : Int) < q := by omega
theorem neg_of {q : Int} {n : Nat} (h0 : q ≤ 0) (h : ¬ 0 < min (q + (n : Int)).toNat n) : q ≤ -(n : Int) := by omega
noncomputable def trim (l : List Nat) (p c : Nat) : List Nat := (l.drop p).take ((l.drop p).length - c)
noncomputable def levF (la lb : List Nat) (mx : Int) : Int :=
  if la = lb then 0
  else
    let p := cp la lb
    let c := cp (la.drop p).reverse (lb.drop p).reverse
    let a := trim la p c
    let b := trim lb p c
    if a = [] ∨ b = [] then 2 * ((a.length : Int) + b.length) else dpF (if b.length < a.length then (b, a) else (a, b)) mx
set_option maxRecDepth 100000 in
set_option maxHeartbeats 8000000 in
theorem lev_tells {w : World} {la lb : List Nat} {ta tb tm : Tok} {mx : Int} {news : List (Addr × Obj)} (hla : la.length ≤ 8) (hlb : lb.length ≤ 8) (hxa : ∀ x ∈ la, Let x) (hxb : ∀ x ∈ lb, Let x) :
    Tells w 74 2 [.str (S la) ta, .str (S lb) tb, .int mx tm] news (fun v news' => news' = news ∧ ∃ t, v = .int (levF la lb mx) t) := by
  k_with_none
  k_with "mine exec For" => refine stop_out ?_
  k_with "mine exec For Name Call cons nil" => refine stop_out ?_
  k_with "mine exec While" => refine stop_out ?_
  k_with "mine exec While BoolOp cons nil" => refine stop_out ?_
  k_with "mine pyIter ref" => refine stop_out ?_
  k_with "mine call ref" => refine stop_out ?_
  k_with "mine MyPost" => (dsimp only [MyPost])
  k_with "mine FPost" => (dsimp only [FPost])
  k_with "mine MyPostX" => (dsimp only [MyPostX])
  k_with "mine exec Assign" => ((with_reducible show wpAny _ _ (exec (Stmt.Assign _ (PySem.Expr.Subscript _ (PySem.Expr.Slice none (some (PySem.Expr.BoolOp _ _ _)) none _) _) _) _) _ _ _); refine stop_out ?_)
  k_with "mine exec If" => ((with_reducible show wpAny _ _ (exec (Stmt.If _ [Stmt.Assign [PySem.Expr.Tuple _ _ _] _ _] _ _) _) _ _ _); refine stop_out ?_)
  k_with "mine call type:list" => refine stop_out ?_
  k_with "mine sidx" => ((try dsimp only at *); first | omega | (simp only [List.length_drop, List.length_take] at *; omega))
  k_with "mine subscriptTail Name Slice str ref" => (k_here; (with_reducible rename Fr _ _ _ _ => F'); (with_reducible rename News _ _ _ _ => N'); (first | (refine my_ss (s := ⟨_, _, _, _, _⟩) F' N' (by walk_at "mine sidx") (by walk_at "mine sidx") (by walk_at "mine sidx") (by walk_at "mine sidx") ?_) | (refine my_sn (s := ⟨_, _, _, _, _⟩) F' N' (by walk_at "mine sidx") (by walk_at "mine sidx") (by walk_at "mine sidx") ?_) | (refine my_nn (s := ⟨_, _, _, _, _⟩) F' N' (by walk_at "mine sidx") ?_) | (refine my_neg (s := ⟨_, _, _, _, _⟩) F' N' (by walk_at "mine sidx") (by walk_at "mine sidx") (by walk_at "mine sidx") ?_)); intro _ _ _ _ _; (try k_sweep))
  k_with "mine subscriptTail Name Name str int" => (refine my_it (by walk_at "mine sidx") (by walk_at "mine sidx") (by walk_at "mine sidx") ?_; intro _ _)
  k_with "mine subscriptTail Name BinOp str int" => (refine my_itneg (by walk_at "mine sidx") (by walk_at "mine sidx") (by walk_at "mine sidx") ?_; intro _ _)
  k_with "mine truthy str" => (refine my_strue (by walk_at "mine sidx") ?_; intro _)
  k_with "mine call builtin:len" => (refine my_slen (by walk_at "mine sidx") ?_; intro _ _)
  k_with "mine idx" => ((try dsimp only at *); first | omega | (simp only [List.length_set] at *; omega) | ((have hE9 := len_of_ne (by assumption)); omega))
  k_with "mine setItem ref int" => (refine my_set (by k_asm) (by k_asm) (by assumption) (by walk_at "mine idx") (by walk_at "mine idx") (by walk_at "mine idx") ?_; intro h' F' N'; (try k_sweep))
  (w_top off; unfold Tells; dsimp only [K0, P0, l0, pr]; k_fill)
  intro dp un gd cn cs a ccd cl outer A₀ base h₀ L m s mean mg mb Q E B F X N T hk hd hu hret
  (refine wpAny_call ?_; k_dflt (refine' code_def ?k1 ?k2 ?k3 ?k4 ?k5 ?kA ?kF ?kK ?k6 ?k7 ?k8 ?k9 ?kB ?_ ?c2 ?c3 ?c4 ?c5; (case kA => exact rfl); (case kF => exact rfl); (case kK => assumption); (case k1 => k_asm); (case k2 => k_asm); (case k3 => k_asm); (case k4 => k_asm); (case k5 => k_asm); (case k6 => k_is); (case k7 => k_is); (case k8 => ktr_room); (case k9 => first | exact BindsTo.of_eq rfl | exact binds_K (by k_in) rfl (by k_is) rfl rfl rfl | (refine' kp_binds ?kx ?ke; (case kx => k_in); (case ke => exact fun _ => rfl))); (case c5 => decide); (case kB => exact locs rfl); (case c2 => exact rfl); (case c3 => exact rfl); (case c4 => exact rfl); k_whole; intro g' L' h' FG' F' N' B' X' T'; (try dsimp only); (try k_lift B'); (try k_fold)))
  k_steps
  · exact hret _ _ _ _ ⟨rfl, _, by rw [levF, if_pos (by simpa [S_beq] using ‹(S la == S lb) = true›)]⟩ (by assumption) (by assumption)
  have hne : ¬ la = lb := by simpa [S_beq] using ‹(S la == S lb) = false›
  unfold Stop
  (rename Fr _ _ _ _ => lF'); (rename News _ _ _ _ => lN')
  with_unfolding_all refine' my_whileX (σ := Int × Tok) (fun c => news) (fun c => [(Str.ofString "pre", .int c.1 c.2)]) (fun _ => True) [] (fun c => 0 ≤ c.1 ∧ c.1 ≤ la.length ∧ c.1 ≤ lb.length ∧ cp (la.drop c.1.toNat) (lb.drop c.1.toNat) + c.1.toNat = cp la lb) (fun c => la.length - c.1.toNat) (fun c => c.1 = (cp la lb : Int)) (0, _) lF' lN' trivial ?kk ⟨Int.le_refl _, Int.natCast_nonneg _, Int.natCast_nonneg _, rfl⟩ ?kt ?kd
  case kk => kst_all
  case kt =>
    rintro ⟨p, tp⟩ u1 h1 tk1 _ ⟨hp0, hp1, hp2, hr1⟩ F1 N1
    dsimp only [kstB] at hp0 hp1 hp2 hr1 F1 N1
    k_steps
    all_goals (simp only [S_beq, decide_eq_true_eq, decide_eq_false_iff_not, List.cons.injEq, and_true, List.length_drop] at *)
    · refine my_end ⟨p + 1, _⟩ (by assumption) (by assumption) (fun p hp => hp) trivial (by kst_all) (by (intros; (try dsimp only); (repeat refine Eq.trans (if_neg (by first | assumption | exact nct (by assumption) | exact nct_sub (by assumption) (by decide +kernel) | exact ne_of_ct (by assumption) (by first | with_reducible exact List.mem_cons_self | with_reducible exact (List.mem_cons_of_mem _ List.mem_cons_self) | with_reducible exact (List.mem_cons_of_mem _ (List.mem_cons_of_mem _ List.mem_cons_self)) | with_reducible exact (List.mem_cons_of_mem _ (List.mem_cons_of_mem _ (List.mem_cons_of_mem _ List.mem_cons_self))) | with_reducible exact (List.mem_cons_of_mem _ (List.mem_cons_of_mem _ (List.mem_cons_of_mem _ (List.mem_cons_of_mem _ List.mem_cons_self))))) | exact ne_of_ps (by assumption) (by first | with_reducible exact List.mem_cons_self | with_reducible exact (List.mem_cons_of_mem _ List.mem_cons_self) | with_reducible exact (List.mem_cons_of_mem _ (List.mem_cons_of_mem _ List.mem_cons_self)) | with_reducible exact (List.mem_cons_of_mem _ (List.mem_cons_of_mem _ (List.mem_cons_of_mem _ List.mem_cons_self))) | with_reducible exact (List.mem_cons_of_mem _ (List.mem_cons_of_mem _ (List.mem_cons_of_mem _ (List.mem_cons_of_mem _ List.mem_cons_self))))))) ?_); (repeat refine Eq.trans ?_ (Eq.symm (if_neg (by first | assumption | exact nct (by assumption) | exact nct_sub (by assumption) (by decide +kernel) | exact ne_of_ct (by assumption) (by first | with_reducible exact List.mem_cons_self | with_reducible exact (List.mem_cons_of_mem _ List.mem_cons_self) | with_reducible exact (List.mem_cons_of_mem _ (List.mem_cons_of_mem _ List.mem_cons_self)) | with_reducible exact (List.mem_cons_of_mem _ (List.mem_cons_of_mem _ (List.mem_cons_of_mem _ List.mem_cons_self))) | with_reducible exact (List.mem_cons_of_mem _ (List.mem_cons_of_mem _ (List.mem_cons_of_mem _ (List.mem_cons_of_mem _ List.mem_cons_self))))) | exact ne_of_ps (by assumption) (by first | with_reducible exact List.mem_cons_self | with_reducible exact (List.mem_cons_of_mem _ List.mem_cons_self) | with_reducible exact (List.mem_cons_of_mem _ (List.mem_cons_of_mem _ List.mem_cons_self)) | with_reducible exact (List.mem_cons_of_mem _ (List.mem_cons_of_mem _ (List.mem_cons_of_mem _ List.mem_cons_self))) | with_reducible exact (List.mem_cons_of_mem _ (List.mem_cons_of_mem _ (List.mem_cons_of_mem _ (List.mem_cons_of_mem _ List.mem_cons_self))))))))); with_unfolding_all rfl)) ⟨by dsimp only; omega, by dsimp only; omega, by dsimp only; omega, ?_⟩ (by dsimp only; omega)
      dsimp only
      rw [← hr1, cp_step (la := la) (lb := lb) (k := p.toNat) (by omega) (by omega) (by assumption), show (p + 1).toNat = p.toNat + 1 by omega]
      omega
    · refine my_out ⟨p, tp⟩ (by assumption) (by assumption) (fun p hp => hp) (by kst_all) (by (intros; (try dsimp only); (repeat refine Eq.trans (if_neg (by first | assumption | exact nct (by assumption) | exact nct_sub (by assumption) (by decide +kernel) | exact ne_of_ct (by assumption) (by first | with_reducible exact List.mem_cons_self | with_reducible exact (List.mem_cons_of_mem _ List.mem_cons_self) | with_reducible exact (List.mem_cons_of_mem _ (List.mem_cons_of_mem _ List.mem_cons_self)) | with_reducible exact (List.mem_cons_of_mem _ (List.mem_cons_of_mem _ (List.mem_cons_of_mem _ List.mem_cons_self))) | with_reducible exact (List.mem_cons_of_mem _ (List.mem_cons_of_mem _ (List.mem_cons_of_mem _ (List.mem_cons_of_mem _ List.mem_cons_self))))) | exact ne_of_ps (by assumption) (by first | with_reducible exact List.mem_cons_self | with_reducible exact (List.mem_cons_of_mem _ List.mem_cons_self) | with_reducible exact (List.mem_cons_of_mem _ (List.mem_cons_of_mem _ List.mem_cons_self)) | with_reducible exact (List.mem_cons_of_mem _ (List.mem_cons_of_mem _ (List.mem_cons_of_mem _ List.mem_cons_self))) | with_reducible exact (List.mem_cons_of_mem _ (List.mem_cons_of_mem _ (List.mem_cons_of_mem _ (List.mem_cons_of_mem _ List.mem_cons_self))))))) ?_); (repeat refine Eq.trans ?_ (Eq.symm (if_neg (by first | assumption | exact nct (by assumption) | exact nct_sub (by assumption) (by decide +kernel) | exact ne_of_ct (by assumption) (by first | with_reducible exact List.mem_cons_self | with_reducible exact (List.mem_cons_of_mem _ List.mem_cons_self) | with_reducible exact (List.mem_cons_of_mem _ (List.mem_cons_of_mem _ List.mem_cons_self)) | with_reducible exact (List.mem_cons_of_mem _ (List.mem_cons_of_mem _ (List.mem_cons_of_mem _ List.mem_cons_self))) | with_reducible exact (List.mem_cons_of_mem _ (List.mem_cons_of_mem _ (List.mem_cons_of_mem _ (List.mem_cons_of_mem _ List.mem_cons_self))))) | exact ne_of_ps (by assumption) (by first | with_reducible exact List.mem_cons_self | with_reducible exact (List.mem_cons_of_mem _ List.mem_cons_self) | with_reducible exact (List.mem_cons_of_mem _ (List.mem_cons_of_mem _ List.mem_cons_self)) | with_reducible exact (List.mem_cons_of_mem _ (List.mem_cons_of_mem _ (List.mem_cons_of_mem _ List.mem_cons_self))) | with_reducible exact (List.mem_cons_of_mem _ (List.mem_cons_of_mem _ (List.mem_cons_of_mem _ (List.mem_cons_of_mem _ List.mem_cons_self))))))))); with_unfolding_all rfl)) ?_
      rw [cp_diff (by omega) (by omega) (by assumption)] at hr1
      dsimp only; omega
    · refine my_out ⟨p, tp⟩ (by assumption) (by assumption) (fun p hp => hp) (by kst_all) (by (intros; (try dsimp only); (repeat refine Eq.trans (if_neg (by first | assumption | exact nct (by assumption) | exact nct_sub (by assumption) (by decide +kernel) | exact ne_of_ct (by assumption) (by first | with_reducible exact List.mem_cons_self | with_reducible exact (List.mem_cons_of_mem _ List.mem_cons_self) | with_reducible exact (List.mem_cons_of_mem _ (List.mem_cons_of_mem _ List.mem_cons_self)) | with_reducible exact (List.mem_cons_of_mem _ (List.mem_cons_of_mem _ (List.mem_cons_of_mem _ List.mem_cons_self))) | with_reducible exact (List.mem_cons_of_mem _ (List.mem_cons_of_mem _ (List.mem_cons_of_mem _ (List.mem_cons_of_mem _ List.mem_cons_self))))) | exact ne_of_ps (by assumption) (by first | with_reducible exact List.mem_cons_self | with_reducible exact (List.mem_cons_of_mem _ List.mem_cons_self) | with_reducible exact (List.mem_cons_of_mem _ (List.mem_cons_of_mem _ List.mem_cons_self)) | with_reducible exact (List.mem_cons_of_mem _ (List.mem_cons_of_mem _ (List.mem_cons_of_mem _ List.mem_cons_self))) | with_reducible exact (List.mem_cons_of_mem _ (List.mem_cons_of_mem _ (List.mem_cons_of_mem _ (List.mem_cons_of_mem _ List.mem_cons_self))))))) ?_); (repeat refine Eq.trans ?_ (Eq.symm (if_neg (by first | assumption | exact nct (by assumption) | exact nct_sub (by assumption) (by decide +kernel) | exact ne_of_ct (by assumption) (by first | with_reducible exact List.mem_cons_self | with_reducible exact (List.mem_cons_of_mem _ List.mem_cons_self) | with_reducible exact (List.mem_cons_of_mem _ (List.mem_cons_of_mem _ List.mem_cons_self)) | with_reducible exact (List.mem_cons_of_mem _ (List.mem_cons_of_mem _ (List.mem_cons_of_mem _ List.mem_cons_self))) | with_reducible exact (List.mem_cons_of_mem _ (List.mem_cons_of_mem _ (List.mem_cons_of_mem _ (List.mem_cons_of_mem _ List.mem_cons_self))))) | exact ne_of_ps (by assumption) (by first | with_reducible exact List.mem_cons_self | with_reducible exact (List.mem_cons_of_mem _ List.mem_cons_self) | with_reducible exact (List.mem_cons_of_mem _ (List.mem_cons_of_mem _ List.mem_cons_self)) | with_reducible exact (List.mem_cons_of_mem _ (List.mem_cons_of_mem _ (List.mem_cons_of_mem _ List.mem_cons_self))) | with_reducible exact (List.mem_cons_of_mem _ (List.mem_cons_of_mem _ (List.mem_cons_of_mem _ (List.mem_cons_of_mem _ List.mem_cons_self))))))))); with_unfolding_all rfl)) ?_
      rw [cp_end2 (by omega)] at hr1
      dsimp only; omega
    · refine my_out ⟨p, tp⟩ (by assumption) (by assumption) (fun p hp => hp) (by kst_all) (by (intros; (try dsimp only); (repeat refine Eq.trans (if_neg (by first | assumption | exact nct (by assumption) | exact nct_sub (by assumption) (by decide +kernel) | exact ne_of_ct (by assumption) (by first | with_reducible exact List.mem_cons_self | with_reducible exact (List.mem_cons_of_mem _ List.mem_cons_self) | with_reducible exact (List.mem_cons_of_mem _ (List.mem_cons_of_mem _ List.mem_cons_self)) | with_reducible exact (List.mem_cons_of_mem _ (List.mem_cons_of_mem _ (List.mem_cons_of_mem _ List.mem_cons_self))) | with_reducible exact (List.mem_cons_of_mem _ (List.mem_cons_of_mem _ (List.mem_cons_of_mem _ (List.mem_cons_of_mem _ List.mem_cons_self))))) | exact ne_of_ps (by assumption) (by first | with_reducible exact List.mem_cons_self | with_reducible exact (List.mem_cons_of_mem _ List.mem_cons_self) | with_reducible exact (List.mem_cons_of_mem _ (List.mem_cons_of_mem _ List.mem_cons_self)) | with_reducible exact (List.mem_cons_of_mem _ (List.mem_cons_of_mem _ (List.mem_cons_of_mem _ List.mem_cons_self))) | with_reducible exact (List.mem_cons_of_mem _ (List.mem_cons_of_mem _ (List.mem_cons_of_mem _ (List.mem_cons_of_mem _ List.mem_cons_self))))))) ?_); (repeat refine Eq.trans ?_ (Eq.symm (if_neg (by first | assumption | exact nct (by assumption) | exact nct_sub (by assumption) (by decide +kernel) | exact ne_of_ct (by assumption) (by first | with_reducible exact List.mem_cons_self | with_reducible exact (List.mem_cons_of_mem _ List.mem_cons_self) | with_reducible exact (List.mem_cons_of_mem _ (List.mem_cons_of_mem _ List.mem_cons_self)) | with_reducible exact (List.mem_cons_of_mem _ (List.mem_cons_of_mem _ (List.mem_cons_of_mem _ List.mem_cons_self))) | with_reducible exact (List.mem_cons_of_mem _ (List.mem_cons_of_mem _ (List.mem_cons_of_mem _ (List.mem_cons_of_mem _ List.mem_cons_self))))) | exact ne_of_ps (by assumption) (by first | with_reducible exact List.mem_cons_self | with_reducible exact (List.mem_cons_of_mem _ List.mem_cons_self) | with_reducible exact (List.mem_cons_of_mem _ (List.mem_cons_of_mem _ List.mem_cons_self)) | with_reducible exact (List.mem_cons_of_mem _ (List.mem_cons_of_mem _ (List.mem_cons_of_mem _ List.mem_cons_self))) | with_reducible exact (List.mem_cons_of_mem _ (List.mem_cons_of_mem _ (List.mem_cons_of_mem _ (List.mem_cons_of_mem _ List.mem_cons_self))))))))); with_unfolding_all rfl)) ?_
      rw [cp_end1 (by omega)] at hr1
      dsimp only; omega
  case kd =>
    rintro ⟨p, tp⟩ u1 h1 tk1 hx F1 N1
    dsimp only [kstB] at hx F1 N1
    subst hx
    have hc1 : cp la lb ≤ la.length := cp_le1 la lb
    have hc2 : cp la lb ≤ lb.length := cp_le2 la lb
    have hla1 : (la.drop (cp la lb)).length ≤ 8 := by rw [List.length_drop]; omega
    have hlb1 : (lb.drop (cp la lb)).length ≤ 8 := by rw [List.length_drop]; omega
    k_steps
    simp only [Int.toNat_natCast] at *
    generalize hA : la.drop (cp la lb) = la1 at *
    generalize hB : lb.drop (cp la lb) = lb1 at *
    unfold Stop
    (rename Fr _ _ _ _ => lF'); (rename News _ _ _ _ => lN')
    with_unfolding_all refine' my_whileX (σ := Int × Tok) (fun c => news) (fun c => [(Str.ofString "post", .int c.1 c.2)]) (fun _ => True) [] (fun c => c.1 ≤ 0 ∧ -(la1.length : Int) ≤ c.1 ∧ -(lb1.length : Int) ≤ c.1 ∧ cp (la1.reverse.drop (-c.1).toNat) (lb1.reverse.drop (-c.1).toNat) + (-c.1).toNat = cp la1.reverse lb1.reverse) (fun c => la1.length - (-c.1).toNat) (fun c => c.1 = -(cp la1.reverse lb1.reverse : Int)) (0, _) lF' lN' trivial ?kk2 ⟨Int.le_refl _, by show -(la1.length : Int) ≤ 0; omega, by show -(lb1.length : Int) ≤ 0; omega, rfl⟩ ?kt2 ?kd2
    case kk2 => kst_all
    case kt2 =>
      rintro ⟨q, tq⟩ u2 h2 tk2 _ ⟨hq0, hq1, hq2, hr2⟩ F2 N2
      dsimp only [kstB] at hq0 hq1 hq2 hr2 F2 N2
      k_steps
      all_goals (simp only [S_beq, decide_eq_true_eq, decide_eq_false_iff_not, List.cons.injEq, and_true, List.length_take] at *)
      all_goals (try (rename 0 < min (q + (la1.length : Int)).toNat la1.length => hgA; replace hgA := pos_of hgA))
      all_goals (try (rename 0 < min (q + (lb1.length : Int)).toNat lb1.length => hgB; replace hgB := pos_of hgB))
      all_goals (try (rename ¬ 0 < min (q + (la1.length : Int)).toNat la1.length => hgA; replace hgA := neg_of hq0 hgA))
      all_goals (try (rename ¬ 0 < min (q + (lb1.length : Int)).toNat lb1.length => hgB; replace hgB := neg_of hq0 hgB))
      all_goals first
        | (exfalso; contradiction)
        | exact my_end ⟨q - 1, _⟩ (by assumption) (by assumption) (fun p hp => hp) trivial (by kst_all) (by (intros; (try dsimp only); (repeat refine Eq.trans (if_neg (by first | assumption | exact nct (by assumption) | exact nct_sub (by assumption) (by decide +kernel) | exact ne_of_ct (by assumption) (by first | with_reducible exact List.mem_cons_self | with_reducible exact (List.mem_cons_of_mem _ List.mem_cons_self) | with_reducible exact (List.mem_cons_of_mem _ (List.mem_cons_of_mem _ List.mem_cons_self)) | with_reducible exact (List.mem_cons_of_mem _ (List.mem_cons_of_mem _ (List.mem_cons_of_mem _ List.mem_cons_self))) | with_reducible exact (List.mem_cons_of_mem _ (List.mem_cons_of_mem _ (List.mem_cons_of_mem _ (List.mem_cons_of_mem _ List.mem_cons_self))))) | exact ne_of_ps (by assumption) (by first | with_reducible exact List.mem_cons_self | with_reducible exact (List.mem_cons_of_mem _ List.mem_cons_self) | with_reducible exact (List.mem_cons_of_mem _ (List.mem_cons_of_mem _ List.mem_cons_self)) | with_reducible exact (List.mem_cons_of_mem _ (List.mem_cons_of_mem _ (List.mem_cons_of_mem _ List.mem_cons_self))) | with_reducible exact (List.mem_cons_of_mem _ (List.mem_cons_of_mem _ (List.mem_cons_of_mem _ (List.mem_cons_of_mem _ List.mem_cons_self))))))) ?_); (repeat refine Eq.trans ?_ (Eq.symm (if_neg (by first | assumption | exact nct (by assumption) | exact nct_sub (by assumption) (by decide +kernel) | exact ne_of_ct (by assumption) (by first | with_reducible exact List.mem_cons_self | with_reducible exact (List.mem_cons_of_mem _ List.mem_cons_self) | with_reducible exact (List.mem_cons_of_mem _ (List.mem_cons_of_mem _ List.mem_cons_self)) | with_reducible exact (List.mem_cons_of_mem _ (List.mem_cons_of_mem _ (List.mem_cons_of_mem _ List.mem_cons_self))) | with_reducible exact (List.mem_cons_of_mem _ (List.mem_cons_of_mem _ (List.mem_cons_of_mem _ (List.mem_cons_of_mem _ List.mem_cons_self))))) | exact ne_of_ps (by assumption) (by first | with_reducible exact List.mem_cons_self | with_reducible exact (List.mem_cons_of_mem _ List.mem_cons_self) | with_reducible exact (List.mem_cons_of_mem _ (List.mem_cons_of_mem _ List.mem_cons_self)) | with_reducible exact (List.mem_cons_of_mem _ (List.mem_cons_of_mem _ (List.mem_cons_of_mem _ List.mem_cons_self))) | with_reducible exact (List.mem_cons_of_mem _ (List.mem_cons_of_mem _ (List.mem_cons_of_mem _ (List.mem_cons_of_mem _ List.mem_cons_self))))))))); with_unfolding_all rfl)) ⟨by dsimp only; omega, by dsimp only; omega, by dsimp only; omega, rev_step hq0 (by omega) (by omega) (by assumption) hr2⟩ (by dsimp only; omega)
        | exact my_out ⟨q, tq⟩ (by assumption) (by assumption) (fun p hp => hp) (by kst_all) (by (intros; (try dsimp only); (repeat refine Eq.trans (if_neg (by first | assumption | exact nct (by assumption) | exact nct_sub (by assumption) (by decide +kernel) | exact ne_of_ct (by assumption) (by first | with_reducible exact List.mem_cons_self | with_reducible exact (List.mem_cons_of_mem _ List.mem_cons_self) | with_reducible exact (List.mem_cons_of_mem _ (List.mem_cons_of_mem _ List.mem_cons_self)) | with_reducible exact (List.mem_cons_of_mem _ (List.mem_cons_of_mem _ (List.mem_cons_of_mem _ List.mem_cons_self))) | with_reducible exact (List.mem_cons_of_mem _ (List.mem_cons_of_mem _ (List.mem_cons_of_mem _ (List.mem_cons_of_mem _ List.mem_cons_self))))) | exact ne_of_ps (by assumption) (by first | with_reducible exact List.mem_cons_self | with_reducible exact (List.mem_cons_of_mem _ List.mem_cons_self) | with_reducible exact (List.mem_cons_of_mem _ (List.mem_cons_of_mem _ List.mem_cons_self)) | with_reducible exact (List.mem_cons_of_mem _ (List.mem_cons_of_mem _ (List.mem_cons_of_mem _ List.mem_cons_self))) | with_reducible exact (List.mem_cons_of_mem _ (List.mem_cons_of_mem _ (List.mem_cons_of_mem _ (List.mem_cons_of_mem _ List.mem_cons_self))))))) ?_); (repeat refine Eq.trans ?_ (Eq.symm (if_neg (by first | assumption | exact nct (by assumption) | exact nct_sub (by assumption) (by decide +kernel) | exact ne_of_ct (by assumption) (by first | with_reducible exact List.mem_cons_self | with_reducible exact (List.mem_cons_of_mem _ List.mem_cons_self) | with_reducible exact (List.mem_cons_of_mem _ (List.mem_cons_of_mem _ List.mem_cons_self)) | with_reducible exact (List.mem_cons_of_mem _ (List.mem_cons_of_mem _ (List.mem_cons_of_mem _ List.mem_cons_self))) | with_reducible exact (List.mem_cons_of_mem _ (List.mem_cons_of_mem _ (List.mem_cons_of_mem _ (List.mem_cons_of_mem _ List.mem_cons_self))))) | exact ne_of_ps (by assumption) (by first | with_reducible exact List.mem_cons_self | with_reducible exact (List.mem_cons_of_mem _ List.mem_cons_self) | with_reducible exact (List.mem_cons_of_mem _ (List.mem_cons_of_mem _ List.mem_cons_self)) | with_reducible exact (List.mem_cons_of_mem _ (List.mem_cons_of_mem _ (List.mem_cons_of_mem _ List.mem_cons_self))) | with_reducible exact (List.mem_cons_of_mem _ (List.mem_cons_of_mem _ (List.mem_cons_of_mem _ (List.mem_cons_of_mem _ List.mem_cons_self))))))))); with_unfolding_all rfl)) (rev_diff hq0 (by omega) (by omega) (by assumption) hr2)
        | exact my_out ⟨q, tq⟩ (by assumption) (by assumption) (fun p hp => hp) (by kst_all) (by (intros; (try dsimp only); (repeat refine Eq.trans (if_neg (by first | assumption | exact nct (by assumption) | exact nct_sub (by assumption) (by decide +kernel) | exact ne_of_ct (by assumption) (by first | with_reducible exact List.mem_cons_self | with_reducible exact (List.mem_cons_of_mem _ List.mem_cons_self) | with_reducible exact (List.mem_cons_of_mem _ (List.mem_cons_of_mem _ List.mem_cons_self)) | with_reducible exact (List.mem_cons_of_mem _ (List.mem_cons_of_mem _ (List.mem_cons_of_mem _ List.mem_cons_self))) | with_reducible exact (List.mem_cons_of_mem _ (List.mem_cons_of_mem _ (List.mem_cons_of_mem _ (List.mem_cons_of_mem _ List.mem_cons_self))))) | exact ne_of_ps (by assumption) (by first | with_reducible exact List.mem_cons_self | with_reducible exact (List.mem_cons_of_mem _ List.mem_cons_self) | with_reducible exact (List.mem_cons_of_mem _ (List.mem_cons_of_mem _ List.mem_cons_self)) | with_reducible exact (List.mem_cons_of_mem _ (List.mem_cons_of_mem _ (List.mem_cons_of_mem _ List.mem_cons_self))) | with_reducible exact (List.mem_cons_of_mem _ (List.mem_cons_of_mem _ (List.mem_cons_of_mem _ (List.mem_cons_of_mem _ List.mem_cons_self))))))) ?_); (repeat refine Eq.trans ?_ (Eq.symm (if_neg (by first | assumption | exact nct (by assumption) | exact nct_sub (by assumption) (by decide +kernel) | exact ne_of_ct (by assumption) (by first | with_reducible exact List.mem_cons_self | with_reducible exact (List.mem_cons_of_mem _ List.mem_cons_self) | with_reducible exact (List.mem_cons_of_mem _ (List.mem_cons_of_mem _ List.mem_cons_self)) | with_reducible exact (List.mem_cons_of_mem _ (List.mem_cons_of_mem _ (List.mem_cons_of_mem _ List.mem_cons_self))) | with_reducible exact (List.mem_cons_of_mem _ (List.mem_cons_of_mem _ (List.mem_cons_of_mem _ (List.mem_cons_of_mem _ List.mem_cons_self))))) | exact ne_of_ps (by assumption) (by first | with_reducible exact List.mem_cons_self | with_reducible exact (List.mem_cons_of_mem _ List.mem_cons_self) | with_reducible exact (List.mem_cons_of_mem _ (List.mem_cons_of_mem _ List.mem_cons_self)) | with_reducible exact (List.mem_cons_of_mem _ (List.mem_cons_of_mem _ (List.mem_cons_of_mem _ List.mem_cons_self))) | with_reducible exact (List.mem_cons_of_mem _ (List.mem_cons_of_mem _ (List.mem_cons_of_mem _ (List.mem_cons_of_mem _ List.mem_cons_self))))))))); with_unfolding_all rfl)) (rev_end hq0 (by omega) hr2)
        | (exfalso; omega)
    case kd2 =>
      rintro ⟨q, tq⟩ u2 h2 tk2 hx F2 N2
      dsimp only [kstB] at hx F2 N2
      subst hx
      have hq1 : cp la1.reverse lb1.reverse ≤ la1.length := by have := cp_le1 la1.reverse lb1.reverse; rwa [List.length_reverse] at this
      have hq2 : cp la1.reverse lb1.reverse ≤ lb1.length := by have := cp_le2 la1.reverse lb1.reverse; rwa [List.length_reverse] at this
      k_steps
      generalize hC : cp la1.reverse lb1.reverse = C at *
      unfold Stop
      (rename Fr _ _ _ _ => lF3)
      refine cutK (σ := Tok) (fun _ => news) (fun c => [(Str.ofString "a", .str (S (la1.take (la1.length - C))) c)]) [] (fun _ => True) lF3 ?_ ?_
      · with_unfolding_all refine wpAny_Assign_Name ?_
        k_steps
        all_goals first
          | (exfalso; omega)
          | exact my_out _ (by assumption) (by assumption) (fun p hp => hp) (by (try dsimp only); rw [show la1.length - C = la1.length by omega, List.take_length]; kst_all) (by (intros; (try dsimp only); (repeat refine Eq.trans (if_neg (by first | assumption | exact nct (by assumption) | exact nct_sub (by assumption) (by decide +kernel) | exact ne_of_ct (by assumption) (by first | with_reducible exact List.mem_cons_self | with_reducible exact (List.mem_cons_of_mem _ List.mem_cons_self) | with_reducible exact (List.mem_cons_of_mem _ (List.mem_cons_of_mem _ List.mem_cons_self)) | with_reducible exact (List.mem_cons_of_mem _ (List.mem_cons_of_mem _ (List.mem_cons_of_mem _ List.mem_cons_self))) | with_reducible exact (List.mem_cons_of_mem _ (List.mem_cons_of_mem _ (List.mem_cons_of_mem _ (List.mem_cons_of_mem _ List.mem_cons_self))))) | exact ne_of_ps (by assumption) (by first | with_reducible exact List.mem_cons_self | with_reducible exact (List.mem_cons_of_mem _ List.mem_cons_self) | with_reducible exact (List.mem_cons_of_mem _ (List.mem_cons_of_mem _ List.mem_cons_self)) | with_reducible exact (List.mem_cons_of_mem _ (List.mem_cons_of_mem _ (List.mem_cons_of_mem _ List.mem_cons_self))) | with_reducible exact (List.mem_cons_of_mem _ (List.mem_cons_of_mem _ (List.mem_cons_of_mem _ (List.mem_cons_of_mem _ List.mem_cons_self))))))) ?_); (repeat refine Eq.trans ?_ (Eq.symm (if_neg (by first | assumption | exact nct (by assumption) | exact nct_sub (by assumption) (by decide +kernel) | exact ne_of_ct (by assumption) (by first | with_reducible exact List.mem_cons_self | with_reducible exact (List.mem_cons_of_mem _ List.mem_cons_self) | with_reducible exact (List.mem_cons_of_mem _ (List.mem_cons_of_mem _ List.mem_cons_self)) | with_reducible exact (List.mem_cons_of_mem _ (List.mem_cons_of_mem _ (List.mem_cons_of_mem _ List.mem_cons_self))) | with_reducible exact (List.mem_cons_of_mem _ (List.mem_cons_of_mem _ (List.mem_cons_of_mem _ (List.mem_cons_of_mem _ List.mem_cons_self))))) | exact ne_of_ps (by assumption) (by first | with_reducible exact List.mem_cons_self | with_reducible exact (List.mem_cons_of_mem _ List.mem_cons_self) | with_reducible exact (List.mem_cons_of_mem _ (List.mem_cons_of_mem _ List.mem_cons_self)) | with_reducible exact (List.mem_cons_of_mem _ (List.mem_cons_of_mem _ (List.mem_cons_of_mem _ List.mem_cons_self))) | with_reducible exact (List.mem_cons_of_mem _ (List.mem_cons_of_mem _ (List.mem_cons_of_mem _ (List.mem_cons_of_mem _ List.mem_cons_self))))))))); with_unfolding_all rfl)) trivial
          | exact my_out _ (by assumption) (by assumption) (fun p hp => hp) (by (try dsimp only); rw [show la1.length - C = (-(C : Int) + la1.length).toNat by omega]; kst_all) (by (intros; (try dsimp only); (repeat refine Eq.trans (if_neg (by first | assumption | exact nct (by assumption) | exact nct_sub (by assumption) (by decide +kernel) | exact ne_of_ct (by assumption) (by first | with_reducible exact List.mem_cons_self | with_reducible exact (List.mem_cons_of_mem _ List.mem_cons_self) | with_reducible exact (List.mem_cons_of_mem _ (List.mem_cons_of_mem _ List.mem_cons_self)) | with_reducible exact (List.mem_cons_of_mem _ (List.mem_cons_of_mem _ (List.mem_cons_of_mem _ List.mem_cons_self))) | with_reducible exact (List.mem_cons_of_mem _ (List.mem_cons_of_mem _ (List.mem_cons_of_mem _ (List.mem_cons_of_mem _ List.mem_cons_self))))) | exact ne_of_ps (by assumption) (by first | with_reducible exact List.mem_cons_self | with_reducible exact (List.mem_cons_of_mem _ List.mem_cons_self) | with_reducible exact (List.mem_cons_of_mem _ (List.mem_cons_of_mem _ List.mem_cons_self)) | with_reducible exact (List.mem_cons_of_mem _ (List.mem_cons_of_mem _ (List.mem_cons_of_mem _ List.mem_cons_self))) | with_reducible exact (List.mem_cons_of_mem _ (List.mem_cons_of_mem _ (List.mem_cons_of_mem _ (List.mem_cons_of_mem _ List.mem_cons_self))))))) ?_); (repeat refine Eq.trans ?_ (Eq.symm (if_neg (by first | assumption | exact nct (by assumption) | exact nct_sub (by assumption) (by decide +kernel) | exact ne_of_ct (by assumption) (by first | with_reducible exact List.mem_cons_self | with_reducible exact (List.mem_cons_of_mem _ List.mem_cons_self) | with_reducible exact (List.mem_cons_of_mem _ (List.mem_cons_of_mem _ List.mem_cons_self)) | with_reducible exact (List.mem_cons_of_mem _ (List.mem_cons_of_mem _ (List.mem_cons_of_mem _ List.mem_cons_self))) | with_reducible exact (List.mem_cons_of_mem _ (List.mem_cons_of_mem _ (List.mem_cons_of_mem _ (List.mem_cons_of_mem _ List.mem_cons_self))))) | exact ne_of_ps (by assumption) (by first | with_reducible exact List.mem_cons_self | with_reducible exact (List.mem_cons_of_mem _ List.mem_cons_self) | with_reducible exact (List.mem_cons_of_mem _ (List.mem_cons_of_mem _ List.mem_cons_self)) | with_reducible exact (List.mem_cons_of_mem _ (List.mem_cons_of_mem _ (List.mem_cons_of_mem _ List.mem_cons_self))) | with_reducible exact (List.mem_cons_of_mem _ (List.mem_cons_of_mem _ (List.mem_cons_of_mem _ (List.mem_cons_of_mem _ List.mem_cons_self))))))))); with_unfolding_all rfl)) trivial
      intro ta3 u3 h3 tk3 _ F3 N3
      dsimp only [kstB] at F3 N3 ⊢
      k_steps
      unfold Stop
      (rename Fr _ _ _ _ => lF4)
      refine cutK (σ := Tok) (fun _ => news) (fun c => [(Str.ofString "b", .str (S (lb1.take (lb1.length - C))) c)]) [] (fun _ => True) lF4 ?_ ?_
      · with_unfolding_all refine wpAny_Assign_Name ?_
        k_steps
        all_goals first
          | (exfalso; omega)
          | exact my_out _ (by assumption) (by assumption) (fun p hp => hp) (by (try dsimp only); rw [show lb1.length - C = lb1.length by omega, List.take_length]; kst_all) (by (intros; (try dsimp only); (repeat refine Eq.trans (if_neg (by first | assumption | exact nct (by assumption) | exact nct_sub (by assumption) (by decide +kernel) | exact ne_of_ct (by assumption) (by first | with_reducible exact List.mem_cons_self | with_reducible exact (List.mem_cons_of_mem _ List.mem_cons_self) | with_reducible exact (List.mem_cons_of_mem _ (List.mem_cons_of_mem _ List.mem_cons_self)) | with_reducible exact (List.mem_cons_of_mem _ (List.mem_cons_of_mem _ (List.mem_cons_of_mem _ List.mem_cons_self))) | with_reducible exact (List.mem_cons_of_mem _ (List.mem_cons_of_mem _ (List.mem_cons_of_mem _ (List.mem_cons_of_mem _ List.mem_cons_self))))) | exact ne_of_ps (by assumption) (by first | with_reducible exact List.mem_cons_self | with_reducible exact (List.mem_cons_of_mem _ List.mem_cons_self) | with_reducible exact (List.mem_cons_of_mem _ (List.mem_cons_of_mem _ List.mem_cons_self)) | with_reducible exact (List.mem_cons_of_mem _ (List.mem_cons_of_mem _ (List.mem_cons_of_mem _ List.mem_cons_self))) | with_reducible exact (List.mem_cons_of_mem _ (List.mem_cons_of_mem _ (List.mem_cons_of_mem _ (List.mem_cons_of_mem _ List.mem_cons_self))))))) ?_); (repeat refine Eq.trans ?_ (Eq.symm (if_neg (by first | assumption | exact nct (by assumption) | exact nct_sub (by assumption) (by decide +kernel) | exact ne_of_ct (by assumption) (by first | with_reducible exact List.mem_cons_self | with_reducible exact (List.mem_cons_of_mem _ List.mem_cons_self) | with_reducible exact (List.mem_cons_of_mem _ (List.mem_cons_of_mem _ List.mem_cons_self)) | with_reducible exact (List.mem_cons_of_mem _ (List.mem_cons_of_mem _ (List.mem_cons_of_mem _ List.mem_cons_self))) | with_reducible exact (List.mem_cons_of_mem _ (List.mem_cons_of_mem _ (List.mem_cons_of_mem _ (List.mem_cons_of_mem _ List.mem_cons_self))))) | exact ne_of_ps (by assumption) (by first | with_reducible exact List.mem_cons_self | with_reducible exact (List.mem_cons_of_mem _ List.mem_cons_self) | with_reducible exact (List.mem_cons_of_mem _ (List.mem_cons_of_mem _ List.mem_cons_self)) | with_reducible exact (List.mem_cons_of_mem _ (List.mem_cons_of_mem _ (List.mem_cons_of_mem _ List.mem_cons_self))) | with_reducible exact (List.mem_cons_of_mem _ (List.mem_cons_of_mem _ (List.mem_cons_of_mem _ (List.mem_cons_of_mem _ List.mem_cons_self))))))))); with_unfolding_all rfl)) trivial
          | exact my_out _ (by assumption) (by assumption) (fun p hp => hp) (by (try dsimp only); rw [show lb1.length - C = (-(C : Int) + lb1.length).toNat by omega]; kst_all) (by (intros; (try dsimp only); (repeat refine Eq.trans (if_neg (by first | assumption | exact nct (by assumption) | exact nct_sub (by assumption) (by decide +kernel) | exact ne_of_ct (by assumption) (by first | with_reducible exact List.mem_cons_self | with_reducible exact (List.mem_cons_of_mem _ List.mem_cons_self) | with_reducible exact (List.mem_cons_of_mem _ (List.mem_cons_of_mem _ List.mem_cons_self)) | with_reducible exact (List.mem_cons_of_mem _ (List.mem_cons_of_mem _ (List.mem_cons_of_mem _ List.mem_cons_self))) | with_reducible exact (List.mem_cons_of_mem _ (List.mem_cons_of_mem _ (List.mem_cons_of_mem _ (List.mem_cons_of_mem _ List.mem_cons_self))))) | exact ne_of_ps (by assumption) (by first | with_reducible exact List.mem_cons_self | with_reducible exact (List.mem_cons_of_mem _ List.mem_cons_self) | with_reducible exact (List.mem_cons_of_mem _ (List.mem_cons_of_mem _ List.mem_cons_self)) | with_reducible exact (List.mem_cons_of_mem _ (List.mem_cons_of_mem _ (List.mem_cons_of_mem _ List.mem_cons_self))) | with_reducible exact (List.mem_cons_of_mem _ (List.mem_cons_of_mem _ (List.mem_cons_of_mem _ (List.mem_cons_of_mem _ List.mem_cons_self))))))) ?_); (repeat refine Eq.trans ?_ (Eq.symm (if_neg (by first | assumption | exact nct (by assumption) | exact nct_sub (by assumption) (by decide +kernel) | exact ne_of_ct (by assumption) (by first | with_reducible exact List.mem_cons_self | with_reducible exact (List.mem_cons_of_mem _ List.mem_cons_self) | with_reducible exact (List.mem_cons_of_mem _ (List.mem_cons_of_mem _ List.mem_cons_self)) | with_reducible exact (List.mem_cons_of_mem _ (List.mem_cons_of_mem _ (List.mem_cons_of_mem _ List.mem_cons_self))) | with_reducible exact (List.mem_cons_of_mem _ (List.mem_cons_of_mem _ (List.mem_cons_of_mem _ (List.mem_cons_of_mem _ List.mem_cons_self))))) | exact ne_of_ps (by assumption) (by first | with_reducible exact List.mem_cons_self | with_reducible exact (List.mem_cons_of_mem _ List.mem_cons_self) | with_reducible exact (List.mem_cons_of_mem _ (List.mem_cons_of_mem _ List.mem_cons_self)) | with_reducible exact (List.mem_cons_of_mem _ (List.mem_cons_of_mem _ (List.mem_cons_of_mem _ List.mem_cons_self))) | with_reducible exact (List.mem_cons_of_mem _ (List.mem_cons_of_mem _ (List.mem_cons_of_mem _ (List.mem_cons_of_mem _ List.mem_cons_self))))))))); with_unfolding_all rfl)) trivial
      intro tb3 u4 h4 tk4 _ F4 N4
      dsimp only [kstB] at F4 N4 ⊢
      have hla2 : (la1.take (la1.length - C)).length ≤ 8 := by rw [List.length_take]; omega
      have hlb2 : (lb1.take (lb1.length - C)).length ≤ 8 := by rw [List.length_take]; omega
      have hma2 : ∀ x ∈ la1.take (la1.length - C), Let x := fun x hx => hxa x (by rw [← hA] at hx; exact List.mem_of_mem_drop (List.mem_of_mem_take hx))
      have hmb2 : ∀ x ∈ lb1.take (lb1.length - C), Let x := fun x hx => hxb x (by rw [← hB] at hx; exact List.mem_of_mem_drop (List.mem_of_mem_take hx))
      have hres : levF la lb mx = if la1.take (la1.length - C) = [] ∨ lb1.take (lb1.length - C) = [] then 2 * (((la1.take (la1.length - C)).length : Int) + (lb1.take (lb1.length - C)).length) else dpF (if (lb1.take (lb1.length - C)).length < (la1.take (la1.length - C)).length then (lb1.take (lb1.length - C), la1.take (la1.length - C)) else (la1.take (la1.length - C), lb1.take (lb1.length - C))) mx := by
        subst hA hB hC
        rw [levF, if_neg hne]; rfl
      generalize hA2 : la1.take (la1.length - C) = la2 at *
      generalize hB2 : lb1.take (lb1.length - C) = lb2 at *
      k_steps
      rotate_left
      · exact hret _ _ _ _ ⟨rfl, _, by rw [hres, if_pos (.inr (List.eq_nil_of_length_eq_zero (by omega)))]⟩ (by assumption) (by assumption)
      · exact hret _ _ _ _ ⟨rfl, _, by rw [hres, if_pos (.inl (List.eq_nil_of_length_eq_zero (by omega)))]⟩ (by assumption) (by assumption)
      have hpa : 0 < la2.length := by assumption
      have hpb : 0 < lb2.length := by assumption
      rw [if_neg (fun e => e.elim (fun e => by rw [e] at hpa; simp at hpa) (fun e => by rw [e] at hpb; simp at hpb))] at hres
      unfold Stop
      (rename Fr _ _ _ _ => lF5)
      refine cutK (σ := List Nat × List Nat × Tok × Tok) (fun _ => news) (fun c => [(Str.ofString "a", .str (S c.1) c.2.2.1), (Str.ofString "b", .str (S c.2.1) c.2.2.2)]) [] (fun c => (c.1, c.2.1) = if lb2.length < la2.length then (lb2, la2) else (la2, lb2)) lF5 ?_ ?_
      · with_unfolding_all refine wpAny_If ?_
        k_steps
        · exact my_out ⟨lb2, la2, tb3, ta3⟩ (by assumption) (by assumption) (fun p hp => .tail _ hp) (by kst_all) (by ksw_same) (by rw [if_pos (by omega)])
        · exact my_out ⟨la2, lb2, ta3, tb3⟩ (by assumption) (by assumption) (fun p hp => hp) (by kst_all) (by ksw_same) (by rw [if_neg (by omega)])
      rintro ⟨a4, b4, ta4, tb4⟩ u5 h5 tk5 hX F5 N5
      dsimp only [kstB] at F5 N5 hX ⊢
      rw [← hX] at hres
      have hal : a4.length ≤ 8 ∧ b4.length ≤ 8 ∧ a4.length ≤ b4.length ∧ 0 < a4.length ∧ (∀ x ∈ a4, Let x) ∧ (∀ x ∈ b4, Let x) := by
        split at hX
        · cases hX; exact ⟨hlb2, hla2, by omega, hpb, hmb2, hma2⟩
        · cases hX; exact ⟨hla2, hlb2, by omega, hpa, hma2, hmb2⟩
      obtain ⟨ha8, hb8, hab, ha0, hma4, hmb4⟩ := hal
      k_steps
      · exact hret _ _ _ _ ⟨rfl, _, by rw [hres, dpF, if_pos (by assumption)]⟩ (by assumption) (by assumption)
      rw [dpF, if_neg (by assumption)] at hres
      dsimp only at hres
      unfold Stop
      (rename Fr _ _ _ _ => lF6); (rename News _ _ _ _ => lN6); (rename IsRange _ _ _ _ _ _ _ _ => hR)
      refine my_listrange rfl lF6 lN6 hR (small2 _ ha8).1 (small2 _ ha8).2 (by omega) ?_
      intro D us cn6 h6 tk6 F6 N6 lD hus
      have hrow : ((List.range a4.length).map fun i : Nat => (2 : Int) + (i : Int) * 2) = row0 a4.length := by
        unfold row0
        apply List.map_congr_left
        intro i _
        omega
      rw [hrow] at hus
      have hlr : (row0 a4.length).length = a4.length := by simp [row0]
      k_steps
      unfold Stop
      (rename Fr _ _ _ _ => lF7)
      with_unfolding_all refine' For_invVF lF7 ?k1 ?k2 ?_
      case k1 => exact rfl
      case k2 => exact rfl
      k_steps
      unfold Stop
      (rename Fr _ _ _ _ => lF8); (rename News _ _ _ _ => lN8); (rename IsRange _ _ _ _ _ _ _ _ => hR2)
      with_unfolding_all refine' for_range (σ := List Value × List Int × Int × Tok) (n := b4.length) (fun c => (D, listOf c.1.toArray cn6) :: news) (fun c => [(Str.ofString "result", .int c.2.2.1 c.2.2.2)]) (fun _ => True) [Str.ofString "bchar", Str.ofString "distance", Str.ofString "minimum", Str.ofString "index", Str.ofString "substitute", Str.ofString "insert_delete"] (fun i c => IntsAre c.1 c.2.1 ∧ c.2.1.length = a4.length ∧ rowsF a4 mx (b4.drop i) i c.2.1 c.2.2.1 = rowsF a4 mx b4 0 (row0 a4.length) 0) (us, row0 a4.length, 0, _) rfl hR2 (small1 _ (by omega)).1 (small1 _ (by omega)).2 lF8 lN8 trivial ?kk3 ⟨hus, hlr, rfl⟩ ?kt3 ?kd3
      case kk3 => kst_all
      case kt3 =>
        rintro i ⟨tv, row, res, tres⟩ ti u9 h9 tk9 own hi ho hadr _ ⟨hm, hml, hmr⟩ F9 N9
        dsimp only [kstB, envOf, List.cons_append, List.map_cons] at hm hml hmr F9 N9 ho
        rw [Int.zero_add] at F9
        have hbi : Let (b4.getD i 0) := hmb4 _ (by rw [List.getD_eq_getElem?_getD, List.getElem?_eq_getElem hi]; exact List.getElem_mem hi)
        have hoffD : ∀ p ∈ news ++ own, p.1 ≠ D := fun p hp => (List.mem_append.mp hp).elim (fun h => Nat.ne_of_lt (lD p h)) (fun h => ho p h D (.head _))
        k_steps
        unfold Stop
        (rename Fr _ _ _ _ => lF10)
        with_unfolding_all refine' For_invVF lF10 ?k1 ?k2 ?_
        case k1 => exact rfl
        case k2 => exact rfl
        k_steps
        unfold Stop
        (rename Fr _ _ _ _ => lF11); (rename News _ _ _ _ => lN11); (rename IsRange _ _ _ _ _ _ _ _ => hR3)
        with_unfolding_all refine' for_range (σ := List Value × List Int × (Int × Tok) × (Int × Tok) × (Int × Tok)) (n := a4.length) (fun c => (D, listOf c.1.toArray cn6) :: (news ++ own)) (fun c => [(Str.ofString "distance", .int c.2.2.1.1 c.2.2.1.2), (Str.ofString "result", .int c.2.2.2.1.1 c.2.2.2.1.2), (Str.ofString "minimum", .int c.2.2.2.2.1 c.2.2.2.2.2)]) (fun _ => True) [Str.ofString "substitute", Str.ofString "insert_delete"] (fun j c => IntsAre c.1 c.2.1 ∧ c.2.1.length = a4.length ∧ c.2.1.take j ++ (cellsF (b4.getD i 0) (a4.drop j) (c.2.1.drop j) c.2.2.1.1 c.2.2.2.1.1 c.2.2.2.2.1).1 = (cellsF (b4.getD i 0) a4 row (i * 2) (i * 2) 9223372036854775807).1 ∧ (cellsF (b4.getD i 0) (a4.drop j) (c.2.1.drop j) c.2.2.1.1 c.2.2.2.1.1 c.2.2.2.2.1).2 = (cellsF (b4.getD i 0) a4 row (i * 2) (i * 2) 9223372036854775807).2) (tv, row, (i * 2, _), (i * 2, _), (9223372036854775807, _)) rfl hR3 (small1 _ (by omega)).1 (small1 _ (by omega)).2 lF11 lN11 trivial ?kk4 ⟨hm, hml, rfl, rfl⟩ ?kt4 ?kd4
        case kk4 => kst_all
        case kt4 =>
          rintro j ⟨tv2, row2, ⟨d, td⟩, ⟨res2, tr2⟩, ⟨mn, tmn⟩⟩ tj u12 h12 tk12 own2 hj ho2 hadr2 _ ⟨hm2, hml2, hmr2, hms2⟩ F12 N12
          dsimp only [kstB, envOf, List.cons_append, List.map_cons] at hm2 hml2 hmr2 hms2 F12 N12 ho2
          rw [Int.zero_add] at F12
          have haj : Let (a4.getD j 0) := hma4 _ (by rw [List.getD_eq_getElem?_getD, List.getElem?_eq_getElem hj]; exact List.getElem_mem hj)
          have hoffD2 : ∀ p ∈ news ++ own ++ own2, p.1 ≠ D := fun p hp => (List.mem_append.mp hp).elim (hoffD p) (fun h => ho2 p h D (.head _))
          have hjr : j < row2.length := by rw [hml2]; exact hj
          have hr28 : row2.length ≤ 8 := by rw [hml2]; exact ha8
          have htv2 : tv2.length = row2.length := hm2.length
          k_steps
          unfold Stop
          with_unfolding_all refine tells_use (cost_tells hbi haj) (by k_asm) (by k_asm) (by k_asm) (by k_asm) (by k_asm) (by rfl) (by ktr_room) (by ktr_units) ?_
          rintro v13 h13 tk13 news13 ⟨rfl, tcost, rfl⟩ F13 N13
          dsimp only
          k_steps
          · (rename News _ _ _ _ => lNe); (rename Fr _ _ _ _ => lFe)
            refine f_end (_, row2.set j (cv d res2 (row2.getD j 0) (cost (b4.getD i 0) (a4.getD j 0))), (row2.getD j 0, _), (cv d res2 (row2.getD j 0) (cost (b4.getD i 0) (a4.getD j 0)), _), (cv d res2 (row2.getD j 0) (cost (b4.getD i 0) (a4.getD j 0)), _)) lFe lNe led_l led_r rfl trivial (by kst_all) ?_ ⟨ints_set hm2 _, (List.length_set ..).trans hml2, ?_, ?_⟩
            · (intros; (try dsimp only); (repeat refine Eq.trans (if_neg (by first | assumption | exact nct (by assumption) | exact nct_sub (by assumption) (by decide +kernel) | exact ne_of_ct (by assumption) (by first | with_reducible exact List.mem_cons_self | with_reducible exact (List.mem_cons_of_mem _ List.mem_cons_self) | with_reducible exact (List.mem_cons_of_mem _ (List.mem_cons_of_mem _ List.mem_cons_self)) | with_reducible exact (List.mem_cons_of_mem _ (List.mem_cons_of_mem _ (List.mem_cons_of_mem _ List.mem_cons_self))) | with_reducible exact (List.mem_cons_of_mem _ (List.mem_cons_of_mem _ (List.mem_cons_of_mem _ (List.mem_cons_of_mem _ List.mem_cons_self))))) | exact ne_of_ps (by assumption) (by first | with_reducible exact List.mem_cons_self | with_reducible exact (List.mem_cons_of_mem _ List.mem_cons_self) | with_reducible exact (List.mem_cons_of_mem _ (List.mem_cons_of_mem _ List.mem_cons_self)) | with_reducible exact (List.mem_cons_of_mem _ (List.mem_cons_of_mem _ (List.mem_cons_of_mem _ List.mem_cons_self))) | with_reducible exact (List.mem_cons_of_mem _ (List.mem_cons_of_mem _ (List.mem_cons_of_mem _ (List.mem_cons_of_mem _ List.mem_cons_self))))))) ?_); (repeat refine Eq.trans ?_ (Eq.symm (if_neg (by first | assumption | exact nct (by assumption) | exact nct_sub (by assumption) (by decide +kernel) | exact ne_of_ct (by assumption) (by first | with_reducible exact List.mem_cons_self | with_reducible exact (List.mem_cons_of_mem _ List.mem_cons_self) | with_reducible exact (List.mem_cons_of_mem _ (List.mem_cons_of_mem _ List.mem_cons_self)) | with_reducible exact (List.mem_cons_of_mem _ (List.mem_cons_of_mem _ (List.mem_cons_of_mem _ List.mem_cons_self))) | with_reducible exact (List.mem_cons_of_mem _ (List.mem_cons_of_mem _ (List.mem_cons_of_mem _ (List.mem_cons_of_mem _ List.mem_cons_self))))) | exact ne_of_ps (by assumption) (by first | with_reducible exact List.mem_cons_self | with_reducible exact (List.mem_cons_of_mem _ List.mem_cons_self) | with_reducible exact (List.mem_cons_of_mem _ (List.mem_cons_of_mem _ List.mem_cons_self)) | with_reducible exact (List.mem_cons_of_mem _ (List.mem_cons_of_mem _ (List.mem_cons_of_mem _ List.mem_cons_self))) | with_reducible exact (List.mem_cons_of_mem _ (List.mem_cons_of_mem _ (List.mem_cons_of_mem _ (List.mem_cons_of_mem _ List.mem_cons_self))))))))); with_unfolding_all rfl)
            · exact (cells_step hj hjr rfl (if_pos (by assumption)).symm).1.trans hmr2
            · exact (cells_step hj hjr rfl (if_pos (by assumption)).symm).2.trans hms2
          · (rename News _ _ _ _ => lNe); (rename Fr _ _ _ _ => lFe)
            refine f_end (_, row2.set j (cv d res2 (row2.getD j 0) (cost (b4.getD i 0) (a4.getD j 0))), (row2.getD j 0, _), (cv d res2 (row2.getD j 0) (cost (b4.getD i 0) (a4.getD j 0)), _), (mn, _)) lFe lNe led_l led_r rfl trivial (by kst_all) ?_ ⟨ints_set hm2 _, (List.length_set ..).trans hml2, ?_, ?_⟩
            · (intros; (try dsimp only); (repeat refine Eq.trans (if_neg (by first | assumption | exact nct (by assumption) | exact nct_sub (by assumption) (by decide +kernel) | exact ne_of_ct (by assumption) (by first | with_reducible exact List.mem_cons_self | with_reducible exact (List.mem_cons_of_mem _ List.mem_cons_self) | with_reducible exact (List.mem_cons_of_mem _ (List.mem_cons_of_mem _ List.mem_cons_self)) | with_reducible exact (List.mem_cons_of_mem _ (List.mem_cons_of_mem _ (List.mem_cons_of_mem _ List.mem_cons_self))) | with_reducible exact (List.mem_cons_of_mem _ (List.mem_cons_of_mem _ (List.mem_cons_of_mem _ (List.mem_cons_of_mem _ List.mem_cons_self))))) | exact ne_of_ps (by assumption) (by first | with_reducible exact List.mem_cons_self | with_reducible exact (List.mem_cons_of_mem _ List.mem_cons_self) | with_reducible exact (List.mem_cons_of_mem _ (List.mem_cons_of_mem _ List.mem_cons_self)) | with_reducible exact (List.mem_cons_of_mem _ (List.mem_cons_of_mem _ (List.mem_cons_of_mem _ List.mem_cons_self))) | with_reducible exact (List.mem_cons_of_mem _ (List.mem_cons_of_mem _ (List.mem_cons_of_mem _ (List.mem_cons_of_mem _ List.mem_cons_self))))))) ?_); (repeat refine Eq.trans ?_ (Eq.symm (if_neg (by first | assumption | exact nct (by assumption) | exact nct_sub (by assumption) (by decide +kernel) | exact ne_of_ct (by assumption) (by first | with_reducible exact List.mem_cons_self | with_reducible exact (List.mem_cons_of_mem _ List.mem_cons_self) | with_reducible exact (List.mem_cons_of_mem _ (List.mem_cons_of_mem _ List.mem_cons_self)) | with_reducible exact (List.mem_cons_of_mem _ (List.mem_cons_of_mem _ (List.mem_cons_of_mem _ List.mem_cons_self))) | with_reducible exact (List.mem_cons_of_mem _ (List.mem_cons_of_mem _ (List.mem_cons_of_mem _ (List.mem_cons_of_mem _ List.mem_cons_self))))) | exact ne_of_ps (by assumption) (by first | with_reducible exact List.mem_cons_self | with_reducible exact (List.mem_cons_of_mem _ List.mem_cons_self) | with_reducible exact (List.mem_cons_of_mem _ (List.mem_cons_of_mem _ List.mem_cons_self)) | with_reducible exact (List.mem_cons_of_mem _ (List.mem_cons_of_mem _ (List.mem_cons_of_mem _ List.mem_cons_self))) | with_reducible exact (List.mem_cons_of_mem _ (List.mem_cons_of_mem _ (List.mem_cons_of_mem _ (List.mem_cons_of_mem _ List.mem_cons_self))))))))); with_unfolding_all rfl)
            · exact (cells_step hj hjr rfl (if_neg (by assumption)).symm).1.trans hmr2
            · exact (cells_step hj hjr rfl (if_neg (by assumption)).symm).2.trans hms2
        case kd4 =>
          rintro ⟨tv2, row2, ⟨d, td⟩, ⟨res2, tr2⟩, ⟨mn, tmn⟩⟩ u12 h12 tk12 _ ⟨hm2, hml2, hmr2, hms2⟩ F12 N12
          dsimp only [kstB, envOf, List.cons_append, List.map_cons] at hm2 hml2 hmr2 hms2 F12 N12
          rw [List.drop_length, cells_nil] at hmr2 hms2
          dsimp only at hmr2 hms2
          rw [List.take_append_drop] at hmr2
          rw [rows_step hi, ← hms2, ← hmr2] at hmr
          dsimp only at hmr
          k_steps
          · rw [if_pos (by assumption)] at hmr
            exact hret _ _ _ _ ⟨rfl, _, by rw [hres, ← hmr]⟩ (by assumption) (kst_newsOf (by assumption) fun p hp => .tail _ (List.mem_append.mpr (.inl hp)))
          · rw [if_neg (by assumption)] at hmr
            (rename News _ _ _ _ => lNe); (rename Fr _ _ _ _ => lFe)
            refine f_end (tv2, row2, res2, tr2) lFe lNe led_l led_r rfl trivial (by kst_all) ?_ ⟨hm2, hml2, ?_⟩
            · (intros; (try dsimp only); (repeat refine Eq.trans (if_neg (by first | assumption | exact nct (by assumption) | exact nct_sub (by assumption) (by decide +kernel) | exact ne_of_ct (by assumption) (by first | with_reducible exact List.mem_cons_self | with_reducible exact (List.mem_cons_of_mem _ List.mem_cons_self) | with_reducible exact (List.mem_cons_of_mem _ (List.mem_cons_of_mem _ List.mem_cons_self)) | with_reducible exact (List.mem_cons_of_mem _ (List.mem_cons_of_mem _ (List.mem_cons_of_mem _ List.mem_cons_self))) | with_reducible exact (List.mem_cons_of_mem _ (List.mem_cons_of_mem _ (List.mem_cons_of_mem _ (List.mem_cons_of_mem _ List.mem_cons_self))))) | exact ne_of_ps (by assumption) (by first | with_reducible exact List.mem_cons_self | with_reducible exact (List.mem_cons_of_mem _ List.mem_cons_self) | with_reducible exact (List.mem_cons_of_mem _ (List.mem_cons_of_mem _ List.mem_cons_self)) | with_reducible exact (List.mem_cons_of_mem _ (List.mem_cons_of_mem _ (List.mem_cons_of_mem _ List.mem_cons_self))) | with_reducible exact (List.mem_cons_of_mem _ (List.mem_cons_of_mem _ (List.mem_cons_of_mem _ (List.mem_cons_of_mem _ List.mem_cons_self))))))) ?_); (repeat refine Eq.trans ?_ (Eq.symm (if_neg (by first | assumption | exact nct (by assumption) | exact nct_sub (by assumption) (by decide +kernel) | exact ne_of_ct (by assumption) (by first | with_reducible exact List.mem_cons_self | with_reducible exact (List.mem_cons_of_mem _ List.mem_cons_self) | with_reducible exact (List.mem_cons_of_mem _ (List.mem_cons_of_mem _ List.mem_cons_self)) | with_reducible exact (List.mem_cons_of_mem _ (List.mem_cons_of_mem _ (List.mem_cons_of_mem _ List.mem_cons_self))) | with_reducible exact (List.mem_cons_of_mem _ (List.mem_cons_of_mem _ (List.mem_cons_of_mem _ (List.mem_cons_of_mem _ List.mem_cons_self))))) | exact ne_of_ps (by assumption) (by first | with_reducible exact List.mem_cons_self | with_reducible exact (List.mem_cons_of_mem _ List.mem_cons_self) | with_reducible exact (List.mem_cons_of_mem _ (List.mem_cons_of_mem _ List.mem_cons_self)) | with_reducible exact (List.mem_cons_of_mem _ (List.mem_cons_of_mem _ (List.mem_cons_of_mem _ List.mem_cons_self))) | with_reducible exact (List.mem_cons_of_mem _ (List.mem_cons_of_mem _ (List.mem_cons_of_mem _ (List.mem_cons_of_mem _ List.mem_cons_self))))))))); with_unfolding_all rfl)
            · show rowsF a4 mx (List.drop (i + 1) b4) ((i + 1 : Nat) : Int) row2 res2 = _
              rw [Int.natCast_succ]; exact hmr
      case kd3 =>
        rintro ⟨tv, row, res, tres⟩ u9 h9 tk9 _ ⟨hm, hml, hmr⟩ F9 N9
        dsimp only [kstB, envOf, List.cons_append, List.map_cons] at hm hml hmr F9 N9
        k_steps
        exact hret _ _ _ _ ⟨rfl, _, by rw [hres, ← hmr, List.drop_length]; rfl⟩ (by assumption) (kst_newsOf (by assumption) fun p hp => .tail _ hp)
end
-- EComp
section
open LCg PySem.Spec PySem.Calls
set_option maxRecDepth 100000
set_option maxHeartbeats 2000000
/-- what stands between two turns of a list comprehension over enumerate -/
abbrev EnSt (e it l : Addr) (items : Array Value) (i : Nat) (h : Heap) : Prop := (∃ old, IsEnum h e it i old) ∧ h.IsListIter it l i ∧ h.IsList l items
/-- what an element's evaluation must leave -/
noncomputable def EnOut (s : Shared) (h₀ : Heap) (L : Addr) (m : Str → Option Value) (nw : List (Addr × Obj)) (P : Value → Prop) : Value → Shared → Prop := fun y s' => ∃ h' tk', s' = { s with heap := h', toks := tk' } ∧ Fr h₀ L h' m ∧ News h₀ L h' nw ∧ P y
section
variable {prog : Program} {w : World} {A : Around} {E : Value → Shared → Prop} {s : Shared} {h₀ : Heap} {L : Addr} {m : Str → Option Value} {env : Env}
theorem enum_block {elt iter : PySem.Expr} {x x₂ : Str} {px px₂ tp : Pos} {tk} {scope : Scope} {cl : List (Str × Addr)} {pos : Pos} {s₂ : Shared} {e it l : Addr} {items : Array Value} {news : List (Addr × Obj)} {J : Nat → List Value → Prop}
    {RR : Value → Addr → Result → Shared → Prop} (hh : A.handled = none) (hei : e ≠ it) (hle : l ≠ e) (hli : l ≠ it) (hsz : items.size ≤ sizeLine)
    (hcell : ∀ y ∈ scope.names, y.2 ≠ .cell) (hkind : scope.kind = .function) (hx : scope.names.lookup x = some .local) (hx₂ : scope.names.lookup x₂ = some .local) (hxx : x ≠ x₂)
    (hst : EnSt e it l items 0 s₂.heap) (F : Fr h₀ L s₂.heap m) (N : News h₀ L s₂.heap news) (hl : ∃ o, (l, o) ∈ news) (heL : L ≠ e) (hiL : L ≠ it) (he₀ : h₀.get? e = none) (hi₀ : h₀.get? it = none) (offe : ∀ p ∈ news, p.1 ≠ e) (offi : ∀ p ∈ news, p.1 ≠ it)
    (hJ : J 0 [])
    (turn : ∀ i ys t v C D oe oi oC m₂ h tk (E' : Value → Shared → Prop), i < items.size → J i ys → items[i]? = some v → NsObj oC m₂ → m₂ x = some (.int (i : Int) t) → m₂ x₂ = some v → Fr h₀ L h m → News h₀ L h ((e, oe) :: (it, oi) :: (C, oC) :: (D, lst ys) :: news) →
      wpAny (model prog w) A (eval elt (compEnvC scope cl C env)) (EnOut s₂ h₀ L m ((e, oe) :: (it, oi) :: (C, oC) :: (D, lst ys) :: news) fun y => J (i + 1) (ys ++ [y])) E' { s₂ with heap := h, toks := tk })
    (hRR : ∀ D C h tk m' ys, Fr h₀ L h m → News h₀ L h ((D, lst ys) :: news) → (∀ p ∈ news, p.1 ≠ D) → h.Ns C m' → h₀.get? C = none → h₀.get? D = none → C ≠ L → D ≠ L → C ≠ D → (∀ p ∈ news, p.1 ≠ C) → J items.size ys → RR (.ref D) C (.ok .next) { s₂ with heap := h, toks := tk }) :
    wpAny (model prog w) A (newList []) (fun acc s₃ => wpAny (model prog w) A (newFunctionEnv scope env.globals cl [] env.qual none .none (some env)) (fun cenv s₄ =>
      codeAny (model prog w) A (.compStart (.ListComp elt [⟨.Tuple [.Name x px, .Name x₂ px₂] tk tp, iter, [], 0⟩] scope pos) 0 (.ref e) acc { cenv with scope := relabel scope env }) (RR acc cenv.locals) s₄) E s₃) E s₂ := by
  obtain ⟨lo, hlm⟩ := hl
  have W := WalksT.enumerate (prog := prog) (w := w) hh e it l hei hle hli items
  refine wpAny_newObj_type (wpAny_newFunctionEnv hcell (by intro y hy; simp at hy) (fun h₁ hns₁ hsb₁ => ?_) hkind)
  dsimp only at hns₁ hsb₁ ⊢
  generalize hH2 : s₂.heap.push { cls := .type "list", dict := none, data := .seq ([] : List Value).toArray } = H2 at hns₁ hsb₁ ⊢
  have hC : H2.objs.size = s₂.heap.objs.size + 1 := by rw [← hH2, Heap.size_push]
  have hDC : s₂.heap.objs.size ≠ H2.objs.size := by rw [hC]; exact Nat.ne_of_lt (Nat.lt_succ_self _)
  have below : ∀ b, b < s₂.heap.objs.size → b ≠ H2.objs.size ∧ b ≠ s₂.heap.objs.size := fun b hb => ⟨by rw [hC]; exact Nat.ne_of_lt (Nat.lt_succ_of_lt hb), Nat.ne_of_lt hb⟩
  have helt : e < s₂.heap.objs.size := by obtain ⟨⟨_, q⟩, _⟩ := hst; exact Heap.lt_size q
  have hilt : it < s₂.heap.objs.size := by obtain ⟨_, ⟨_, q, _⟩, _⟩ := hst; exact Heap.lt_size q
  have hllt : l < s₂.heap.objs.size := Heap.lt_size (N _ hlm).1
  have hLlt : L < s₂.heap.objs.size := F.ns.lt
  have old : ∀ b o, s₂.heap.get? b = some o → h₁.get? b = some o := fun b o e => hsb₁.extBut b o (below b (Heap.lt_size e)).1 (Heap.get?_push_of_some _ (hH2 ▸ Heap.get?_push_of_some _ e))
  have hacc : h₁.get? s₂.heap.objs.size = some (lst []) := hsb₁.extBut _ _ hDC (Heap.get?_push_of_some _ (hH2 ▸ Heap.get?_push_size _ rfl))
  have fresh₀ : ∀ a, s₂.heap.objs.size ≤ a → h₀.get? a = none := fun a ha => by
    cases e : h₀.get? a with
    | none => rfl
    | some o' => exact absurd (Heap.lt_size (F.keep a o' e)) (Nat.not_lt.mpr ha)
  have hD₀ : h₀.get? s₂.heap.objs.size = none := fresh₀ _ (Nat.le_refl _)
  have hC₀ : h₀.get? H2.objs.size = none := fresh₀ _ (by rw [hC]; exact Nat.le_succ _)
  have hDL : s₂.heap.objs.size ≠ L := Ne.symm (below L hLlt).2
  have hCL : H2.objs.size ≠ L := Ne.symm (below L hLlt).1
  have hCe : e ≠ H2.objs.size := (below e helt).1
  have hCi : it ≠ H2.objs.size := (below it hilt).1
  have hDe : e ≠ s₂.heap.objs.size := (below e helt).2
  have hDi : it ≠ s₂.heap.objs.size := (below it hilt).2
  have offC : ∀ p ∈ news, p.1 ≠ H2.objs.size := fun p hp => (below _ (Heap.lt_size (N p hp).1)).1
  have offD : ∀ p ∈ news, p.1 ≠ s₂.heap.objs.size := fun p hp => (below _ (Heap.lt_size (N p hp).1)).2
  have fr2 : ∀ {h h' : Heap}, Fr h₀ L h m → (∀ b o, b ∉ [e, it] → h.get? b = some o → h'.get? b = some o) → Fr h₀ L h' m := fun F' hk =>
    ⟨F'.ns.at' fun o q => hk L o (by simp [heL, hiL]) q, fun b o q => hk b o (fun hm => by
      rcases List.mem_cons.mp hm with rfl | hm
      · rw [he₀] at q; cases q
      · rw [List.mem_singleton.mp hm, hi₀] at q; cases q) (F'.keep b o q), F'.above⟩
  have news2 : ∀ {h h' : Heap} {nw : List (Addr × Obj)}, News h₀ L h nw → (∀ p ∈ nw, p.1 ≠ e ∧ p.1 ≠ it) → (∀ b o, b ∉ [e, it] → h.get? b = some o → h'.get? b = some o) → News h₀ L h' nw := fun N' off hk p hp =>
    ⟨hk _ _ (by simp [(off p hp).1, (off p hp).2]) (N' p hp).1, (N' p hp).2⟩
  have offDn : ∀ ys : List Value, ∀ p ∈ (s₂.heap.objs.size, lst ys) :: news, p.1 ≠ e ∧ p.1 ≠ it := fun ys p hp => by
    rcases List.mem_cons.mp hp with rfl | hp
    · exact ⟨Ne.symm hDe, Ne.symm hDi⟩
    · exact ⟨offe p hp, offi p hp⟩
  have loop : ∀ s₃ : Shared, s₃ = { s₂ with heap := h₁, toks := s₂.toks + ([] : List (Str × Value)).length } →
      codeAny (model prog w) A (.compLoop (.ListComp elt [⟨.Tuple [.Name x px, .Name x₂ px₂] tk tp, iter, [], 0⟩] scope pos) 0 (.ref e) (.ref s₂.heap.objs.size) (compEnvC scope cl H2.objs.size env))
        (RR (.ref s₂.heap.objs.size) H2.objs.size) s₃ := by
    rintro s₃ rfl
    refine LCp.codeAny_compLoop_pair
      (fun k s' => ∃ h' tk i ys m', s' = { s₂ with heap := h', toks := tk } ∧ i ≤ items.size ∧ k = items.size + 1 - i ∧ ys.length = i ∧ EnSt e it l items i h' ∧ Fr h₀ L h' m ∧ h'.Ns H2.objs.size m' ∧ News h₀ L h' ((s₂.heap.objs.size, lst ys) :: news) ∧ J i ys) ?_ (items.size + 1)
      ⟨h₁, _, 0, [], _, rfl, Nat.zero_le _, rfl, rfl, W.frame _ _ _ hst fun b _ o q => old b o q, F.keeps old, hns₁, fun p hp => ?_, hJ⟩
    · rintro k s' ⟨h', tk, i, ys, m', rfl, hi, rfl, hyl, hst', F', hn', N', hJ'⟩
      by_cases hlt : i < items.size
      · refine W.item i _ _ _ hlt hst' fun T vals h₂ tk₂ hPt hTge hT hMid hk₂ => ?_
        obtain ⟨t, v, hv, rfl⟩ := hPt
        refine W.go _ _ _ i T _ _ _ hMid fun h₂' hst₂ hk₂' => ?_
        have hTne : T ∉ [e, it] := W.apart i T _ hMid
        have N₂ := news2 (news2 N' (offDn ys) hk₂) (offDn ys) hk₂'
        have F₂ := fr2 (fr2 F' hk₂) hk₂'
        have hC2 : H2.objs.size ∉ [e, it] := by simp [Ne.symm hCe, Ne.symm hCi]
        have hn₂ := (hn'.at' fun o q => hk₂ _ o hC2 q).at' fun o q => hk₂' _ o hC2 q
        have hT2 : IsTup h₂' T #[.int (i : Int) t, v] := hT.at fun o q => hk₂' T o hTne q
        refine assign_Tuple_tuple hh hT2 rfl rfl fun h₅ he => ?_
        have he' : ∀ b o, h₂'.get? b = some o → h₅.get? b = some o := fun b o e => he b o (Nat.ne_of_lt (Heap.lt_size e)) e
        refine assignInOrder_cons (wpAny_assign_Name (wpAny_storeName_local (lookup_relabel_local hx) (hn₂.at' fun o q => he' _ o q) (fun h₆ hn₆ hs₆ => ?_) (by simp [compEnvC, relabel, hkind])))
        refine assignInOrder_cons (wpAny_assign_Name (wpAny_storeName_local (lookup_relabel_local hx₂) hn₆ (fun h₃ hn₃ hs₃ => ?_) (by simp [compEnvC, relabel, hkind])))
        refine assignInOrder_nil ?_
        have old3 : ∀ b o, b ≠ H2.objs.size → h₂'.get? b = some o → h₃.get? b = some o := fun b o hb q => hs₃.extBut b o hb (hs₆.extBut b o hb (he' b o q))
        have hst₃ : EnSt e it l items (i + 1) h₃ := W.frame _ _ _ hst₂ fun b hb o q => old3 b o (fun q' => by
          rw [q'] at hb
          rcases List.mem_cons.mp hb with q1 | hb
          · exact hCe q1.symm
          rcases List.mem_cons.mp hb with q1 | hb
          · exact hCi q1.symm
          · exact offC _ hlm (List.mem_singleton.mp hb).symm) q
        obtain ⟨oe, heE⟩ : ∃ oe, h₃.get? e = some oe := by obtain ⟨⟨_, q⟩, _⟩ := hst₃; exact ⟨_, q⟩
        obtain ⟨oi, heI⟩ : ∃ oi, h₃.get? it = some oi := by obtain ⟨_, ⟨_, q, _⟩, _⟩ := hst₃; exact ⟨_, q⟩
        obtain ⟨oC, heC, hoC⟩ := ns_obj hn₃
        have F₃ : Fr h₀ L h₃ m := ((F₂.keeps he').change hs₆ hCL hC₀).change hs₃ hCL hC₀
        have N₃ : News h₀ L h₃ ((e, oe) :: (it, oi) :: (H2.objs.size, oC) :: (s₂.heap.objs.size, lst ys) :: news) := fun p hp => by
          rcases List.mem_cons.mp hp with rfl | hp
          · exact ⟨heE, Ne.symm heL, he₀⟩
          rcases List.mem_cons.mp hp with rfl | hp
          · exact ⟨heI, Ne.symm hiL, hi₀⟩
          rcases List.mem_cons.mp hp with rfl | hp
          · exact ⟨heC, hCL, hC₀⟩
          · have z := N₂ p hp
            refine ⟨old3 _ _ ?_ z.1, z.2⟩
            rcases List.mem_cons.mp hp with rfl | hp
            · exact hDC
            · exact offC p hp
        refine wpAny_mono (turn i ys t v H2.objs.size s₂.heap.objs.size oe oi oC _ h₃ _ _ hlt hJ' hv hoC (by simp [hxx]) (by simp) F₃ N₃) (fun y s₄ h₄ => ?_) fun _ _ e => e
        obtain ⟨h₄, tk₄, rfl, F₄, N₄, J₄⟩ := h₄
        have zE := (N₄ (e, oe) List.mem_cons_self).1
        have zI := (N₄ (it, oi) (List.mem_cons_of_mem _ List.mem_cons_self)).1
        have zC := (N₄ (H2.objs.size, oC) (List.mem_cons_of_mem _ (List.mem_cons_of_mem _ List.mem_cons_self))).1
        have zD := (N₄ (s₂.heap.objs.size, lst ys) (List.mem_cons_of_mem _ (List.mem_cons_of_mem _ (List.mem_cons_of_mem _ List.mem_cons_self)))).1
        have zn : ∀ p ∈ news, h₄.get? p.1 = some p.2 := fun p hp => (N₄ p (List.mem_cons_of_mem _ (List.mem_cons_of_mem _ (List.mem_cons_of_mem _ (List.mem_cons_of_mem _ hp))))).1
        have z3 : ∀ p ∈ news, h₃.get? p.1 = some p.2 := fun p hp => (N₃ p (List.mem_cons_of_mem _ (List.mem_cons_of_mem _ (List.mem_cons_of_mem _ (List.mem_cons_of_mem _ hp))))).1
        have hst₄ : EnSt e it l items (i + 1) h₄ := W.frame _ _ _ hst₃ fun b hb o q => by
          rcases List.mem_cons.mp hb with rfl | hb
          · rw [heE] at q; cases q; exact zE
          rcases List.mem_cons.mp hb with rfl | hb
          · rw [heI] at q; cases q; exact zI
          · have hb' := List.mem_singleton.mp hb
            subst hb'
            have q2 : h₃.get? b = some lo := z3 _ hlm
            rw [q] at q2; cases q2
            exact zn _ hlm
        refine append_at (hsz := by show ys.toArray.size ≤ sizeLine; rw [List.size_toArray, hyl]; exact Nat.le_trans hi hsz) zD fun h₅ hs₅ hD₅ => ?_
        have hDf : s₂.heap.objs.size ∉ [e, it, l] := by
          intro hb
          rcases List.mem_cons.mp hb with q1 | hb
          · exact hDe q1.symm
          rcases List.mem_cons.mp hb with q1 | hb
          · exact hDi q1.symm
          · exact offD _ hlm (List.mem_singleton.mp hb).symm
        refine ⟨items.size + 1 - (i + 1), by omega, h₅, tk₄, i + 1, ys ++ [y], _, rfl, hlt, rfl, by rw [List.length_append, List.length_singleton, hyl], W.frame _ _ _ hst₄ fun b hb o q => hs₅.extBut b o (fun q1 => hDf (q1 ▸ hb)) q, F₄.change hs₅ hDL hD₀,
          (hoC.ns zC).sameBut hs₅ (Ne.symm hDC), fun p hp => ?_, J₄⟩
        rcases List.mem_cons.mp hp with rfl | hp
        · exact ⟨hD₅.trans (congrArg some (lst_snoc ys y)), hDL, hD₀⟩
        · exact ⟨hs₅.extBut _ _ (offD p hp) (zn p hp), (N p hp).2⟩
      · obtain rfl : i = items.size := Nat.le_antisymm hi (Nat.not_lt.mp hlt)
        refine W.done _ _ _ hst' fun h₂ tk₂ hk₂ => ?_
        have hC2 : H2.objs.size ∉ [e, it] := by simp [Ne.symm hCe, Ne.symm hCi]
        exact hRR _ _ h₂ tk₂ _ ys (fr2 F' hk₂) (news2 N' (offDn ys) hk₂) offD (hn'.at' fun o q => hk₂ _ o hC2 q) hC₀ hD₀ hCL hDL (Ne.symm hDC) offC hJ'
    · rcases List.mem_cons.mp hp with rfl | hp
      · exact ⟨hacc, hDL, hD₀⟩
      · exact ⟨old _ _ (N p hp).1, (N p hp).2⟩
  exact codeAny_compStart_list (loop _ rfl) (W.self 0 _ _ _ (W.frame _ _ _ hst fun b _ o q => old b o q) (loop _ rfl))
/-- what the iterable of a comprehension over enumerate gives -/
noncomputable def EnumSrc (prog : Program) (w : World) (A : Around) (h₀ : Heap) (L : Addr) (m : Str → Option Value) (env : Env) (elt : PySem.Expr) (x x₂ y : Str) (scope : Scope) (cl : List (Str × Addr)) (Q : Flow → Shared → Prop) (xv : Value) (s₁ : Shared) : Prop :=
  ∃ (e it l : Addr) (items : Array Value) (news : List (Addr × Obj)) (J : Nat → List Value → Prop), xv = .ref e ∧ A.handled = none ∧ e ≠ it ∧ l ≠ e ∧ l ≠ it ∧ items.size ≤ sizeLine ∧ IsEnum s₁.heap e it 0 .none ∧ s₁.heap.IsListIter it l 0 ∧ s₁.heap.IsList l items ∧
    Fr h₀ L s₁.heap m ∧ News h₀ L s₁.heap news ∧ (∃ o, (l, o) ∈ news) ∧ L ≠ e ∧ L ≠ it ∧ h₀.get? e = none ∧ h₀.get? it = none ∧ (∀ p ∈ news, p.1 ≠ e) ∧ (∀ p ∈ news, p.1 ≠ it) ∧ J 0 [] ∧
    (∀ i ys t v C D oe oi oC m₂ h tk (E' : Value → Shared → Prop), i < items.size → J i ys → items[i]? = some v → NsObj oC m₂ → m₂ x = some (.int (i : Int) t) → m₂ x₂ = some v → Fr h₀ L h m → News h₀ L h ((e, oe) :: (it, oi) :: (C, oC) :: (D, lst ys) :: news) →
      wpAny (model prog w) A (eval elt (compEnvC scope cl C env)) (EnOut s₁ h₀ L m ((e, oe) :: (it, oi) :: (C, oC) :: (D, lst ys) :: news) fun y => J (i + 1) (ys ++ [y])) E' { s₁ with heap := h, toks := tk }) ∧
    ∀ D h tk ys, J items.size ys → Fr h₀ L h (fun z => if z = y then some (.ref D) else m z) → News h₀ L h ((D, lst ys) :: news) → (∀ p ∈ news, p.1 ≠ D) → Q .next { s₁ with heap := h, toks := tk }
theorem Assign_enum {elt iter : PySem.Expr} {x x₂ y : Str} {px px₂ tp py : Pos} {tk} {scope : Scope} {cl : List (Str × Addr)} {pos spos : Pos} {Q : Flow → Shared → Prop} (_F₀ : Fr h₀ L s.heap m) (hLe : env.locals = L)
    (hsw : swapsWith (.ListComp elt [⟨.Tuple [.Name x px, .Name x₂ px₂] tk tp, iter, [], 0⟩] scope pos) (some (.Name y py)) spos.line env = pure true)
    (hclos : closureFor scope env = pure cl) (hcell : ∀ z ∈ scope.names, z.2 ≠ .cell) (hkind : scope.kind = .function)
    (hnames : ∀ z ∈ scope.names, z.2 = .local → scope.names.lookup z.1 = some .local) (hx : scope.names.lookup x = some .local) (hx₂ : scope.names.lookup x₂ = some .local) (hxx : x ≠ x₂)
    (hy : env.kindOf y = some .local) (hp : (env.scope.kind == .class || (env.scope.kind == .module && env.locals != env.globals)) = false)
    (h : wpAny (model prog w) A (eval iter env) (EnumSrc prog w A h₀ L m env elt x x₂ y scope cl Q) E s)
    (hs : ∀ x, foldedSetIterable iter env x = pure x := by intro _; rfl) :
    wpAny (model prog w) A (exec (.Assign [.Name y py] (.ListComp elt [⟨.Tuple [.Name x px, .Name x₂ px₂] tk tp, iter, [], 0⟩] scope pos) spos) env) Q E s := by
  subst hLe
  rw [exec_Assign_Name_used _ _ _ _ hsw]
  refine wpAny_bind (wpAny_standAt (wpAny_bind ?_))
  show wpAny _ A (do let _ ← comprehension (.ListComp elt [⟨.Tuple [.Name x px, .Name x₂ px₂] tk tp, iter, [], 0⟩] scope pos) scope env _ (newList []) false (eval iter env) (some (assign (.Name y py) env))) _ _ s
  refine wpAny_bind (wpAny_mono (wpAny_comprehension_free (use := some (assign (.Name y py) env)) (Q := fun _ s' => Q .next s') rfl hs hclos hkind hnames
    (wpAny_mono h (fun xv s₁ h₁ => ?_) fun _ _ e => e)) (fun _ s' hq => wpAny_pure (wpAny_pure hq)) fun _ _ e => e)
  obtain ⟨e, it, l, items, news, J, rfl, hh, hei, hle, hli, hsz, hE, hI, hl, F, N, hlm, heL, hiL, he₀, hi₀, offe, offi, hJ, turn, done⟩ := h₁
  refine wpAny_pyIter_enum hE ?_
  refine enum_block hh hei hle hli hsz hcell hkind hx hx₂ hxx ⟨⟨_, hE⟩, hI, hl⟩ F N hlm heL hiL he₀ hi₀ offe offi hJ turn ?_
  intro D C h' tk m' ys F' N' offD hn hC₀ hD₀ hCL hDL hCD offC hJ'
  show wpAny _ A (assign (.Name y py) env (.ref D)) _ _ _
  refine wpAny_assign_Name (wpAny_storeName_local hy F'.ns (fun h₂ hn₂ hs₂ => ?_) hp)
  have hL₀ : h₀.get? env.locals = none := Heap.get?_none_of_le F'.above
  have F₂ : Fr h₀ env.locals h₂ (fun z => if z = y then some (.ref D) else m z) := ⟨hn₂, fun b o e => hs₂.extBut b o (fun q => by rw [q, hL₀] at e; cases e) (F'.keep b o e), F'.above⟩
  refine ⟨m', hn.sameBut hs₂ hCL, fun h'' hs'' => done D h'' _ ys hJ' (F₂.change hs'' hCL hC₀) (fun p hp => ?_) offD⟩
  have z : h₂.get? p.1 = some p.2 := hs₂.extBut _ _ (N' p hp).2.1 (N' p hp).1
  refine ⟨hs''.extBut _ _ ?_ z, (N' p hp).2⟩
  rcases List.mem_cons.mp hp with rfl | hp
  · exact Ne.symm hCD
  · exact offC p hp
theorem enum_src {elt : PySem.Expr} {x x₂ y : Str} {scope : Scope} {cl : List (Str × Addr)} {Q : Flow → Shared → Prop} {l : Addr} {vs : List Value} {nn : Nat} {news : List (Addr × Obj)} (J : Nat → List Value → Prop) (hh : A.handled = none) (F : Fr h₀ L s.heap m) (N : News h₀ L s.heap news) (hm : (l, listOf vs.toArray nn) ∈ news) (hsz : vs.length ≤ sizeLine) (hJ : J 0 [])
    (turn : ∀ (e it : Addr) (g : Heap) i ys t v C D oe oi oC m₂ h tk (E' : Value → Shared → Prop), i < vs.length → J i ys → vs[i]? = some v → NsObj oC m₂ → m₂ x = some (.int (i : Int) t) → m₂ x₂ = some v → Fr h₀ L h m → News h₀ L h ((e, oe) :: (it, oi) :: (C, oC) :: (D, lst ys) :: news) →
      wpAny (model prog w) A (eval elt (compEnvC scope cl C env)) (EnOut s h₀ L m ((e, oe) :: (it, oi) :: (C, oC) :: (D, lst ys) :: news) fun y => J (i + 1) (ys ++ [y])) E' { s with heap := h, toks := tk })
    (done : ∀ D h tk ys, J vs.length ys → Fr h₀ L h (fun z => if z = y then some (.ref D) else m z) → News h₀ L h ((D, lst ys) :: news) → (∀ p ∈ news, p.1 ≠ D) → Q .next { s with heap := h, toks := tk }) :
    wpAny (model prog w) A (call (.type "enumerate") [.ref l]) (EnumSrc prog w A h₀ L m env elt x x₂ y scope cl Q) E s := by
  have hl : s.heap.IsList l vs.toArray := ⟨_, (N _ hm).1, rfl, nn, rfl⟩
  have hlt : l < s.heap.objs.size := Heap.lt_size (N _ hm).1
  have hLs : L < s.heap.objs.size := F.ns.lt
  refine call_enumerate_list hl fun h' hE hI hsz' hk => ?_
  refine ⟨s.heap.objs.size + 1, s.heap.objs.size, l, vs.toArray, news, J, rfl, hh, Nat.succ_ne_self _, Nat.ne_of_lt (Nat.lt_succ_of_lt hlt), Nat.ne_of_lt hlt, by rw [List.size_toArray]; exact hsz, hE, hI, hl.at fun o q => hk l o q,
    F.keeps hk, N.grown hk, ⟨_, hm⟩, Nat.ne_of_lt (Nat.lt_succ_of_lt hLs), Nat.ne_of_lt hLs, ktu_new F (Nat.le_succ _), ktu_new F (Nat.le_refl _), fun p hp => Nat.ne_of_lt (Nat.lt_succ_of_lt (Heap.lt_size (N p hp).1)), fun p hp => Nat.ne_of_lt (Heap.lt_size (N p hp).1), hJ, ?_, ?_⟩
  · intro i ys t v C D oe oi oC m₂ h tk E' hi hj hv
    rw [List.size_toArray] at hi
    exact turn _ _ h' i ys t v C D oe oi oC m₂ h tk E' hi hj (by simpa using hv)
  · intro D h tk ys hj
    rw [List.size_toArray] at hj
    exact done D h tk ys hj
end
end
-- Comp
section
set_option maxRecDepth 100000
/-- the code of a letter -/
noncomputable def gl (k : Int) : Nat := [97, 65, 98, 66].getD k.toNat 0
theorem join_S (l : List Nat) : PySem.Txt.join (PySem.Str.ofString "") (l.map fun c => S [c]) = S l := by
  show Builtin.Str.glued (PySem.Str.ofString "") _ = _
  rw [StrLaws.glued_eq_join]
  induction l with
  | nil => rfl
  | cons a r ih =>
    cases r with
    | nil => rfl
    | cons b r =>
      show S [a] ++ PySem.Str.ofString "" ++ Str.join (PySem.Str.ofString "") ((b :: r).map fun c => S [c]) = _
      rw [ih]
      apply congrArg Str.mk
      show (#[a] ++ #[] ++ (b :: r).toArray : Array Nat) = _
      simp
section
variable {prog : Program} {w : World} {A : Around} {E : Value → Shared → Prop} {s : Shared} {t : Tok} {D : Addr} {ys : List Value} {Q : Value → Shared → Prop}
theorem my_join {ks : List Int} (hl : s.heap.IsList D ys.toArray) (hc : CarriedAll ys (ks.map fun k => PyData.str (S [gl k]))) (hn : ks.length ≤ 16)
    (h : ∀ t' k, Q (.str (S (ks.map gl)) t') { s with toks := k }) :
    wpAny (model prog w) A (call (.builtin "str.join") [.str (PySem.Str.ofString "") t, .ref D]) Q E s := by
  refine KT.join_1 (g := fun k => S [gl k]) hl hc (fun _ _ => rfl) (by omega) ?_
  intro t' k _
  have e : (ks.map fun k => S [gl k]) = (ks.map gl).map fun c => S [c] := by rw [List.map_map]; rfl
  rw [e, join_S]
  exact h t' k
theorem aA_S : PySem.Str.ofString "aAbB" = S [97, 65, 98, 66] := by decide +kernel
theorem item_gl {i : Int} (h0 : 0 ≤ i) (h1 : i < 4) : S [gl i] = Txt.item (PySem.Str.ofString "aAbB") i := by
  rw [aA_S, it_pos (l := [97, 65, 98, 66]) h0 h1]; rfl
theorem my_menu {value slice : PySem.Expr} {i : Int} {u : Tok} (h0 : 0 ≤ i) (h1 : i < 4) (h : ∀ t k, Q (.str (S [gl i]) t) { s with toks := k })
    (hs : subscripted slice false (.str (PySem.Str.ofString "aAbB") t) (.int i u) = operate [.str (PySem.Str.ofString "aAbB") t, .int i u] (getItem (.str (PySem.Str.ofString "aAbB") t) (.int i u)) := by with_unfolding_all rfl)
    (ht : ∀ r, letTemporaryGo value (.str (PySem.Str.ofString "aAbB") t) r = pure () := by intro _; with_unfolding_all rfl) :
    wpAny (model prog w) A (subscriptTail value slice (.str (PySem.Str.ofString "aAbB") t) (.int i u)) Q E s := by
  rw [aA_S] at hs ht ⊢
  exact my_it (l := [97, 65, 98, 66]) (by decide) h0 h1 h hs ht
end
end
-- Wait
section
set_option maxRecDepth 100000
/-- the pairs that stand in waiting -/
noncomputable def wps (bl : List Int) (i : Nat) : List PP := (List.range i).map fun j => (bl.getD j 0, (j : Int))
theorem wps_len (bl : List Int) (i : Nat) : (wps bl i).length = i := by simp [wps]
theorem wps_get (bl : List Int) {i j : Nat} (h : j < i) : (wps bl i).getD j (0, 0) = (bl.getD j 0, (j : Int)) := by
  simp [wps, List.getD_eq_getElem?_getD, h]
theorem TupAt.mono {a b : List (Addr × Obj)} {v : Value} {p : Int × Int} (h : TupAt a v p) (hs : ∀ z ∈ a, z ∈ b) : TupAt b v p := by
  obtain ⟨x, t, u, n, e, hm⟩ := h; exact ⟨x, t, u, n, e, hs _ hm⟩
theorem HV.more {tl : List (Addr × Obj)} {ys : List Value} {bl : List Int} {i : Nat} {y : Value} {z : Addr × Obj} (h : HV tl ys (wps bl i)) (hy : TupAt (z :: tl) y (bl.getD i 0, (i : Int))) : HV (z :: tl) (ys ++ [y]) (wps bl (i + 1)) := by
  have hl : ys.length = i := by rw [h.1, wps_len]
  refine ⟨by rw [wps_len]; simp [hl], fun j hj => ?_⟩
  rw [wps_len] at hj
  rw [wps_get bl hj]
  by_cases e : j < i
  · have q := h.2 j (by rw [wps_len]; exact e)
    rw [wps_get bl e] at q
    have : (ys ++ [y]).getD j .none = ys.getD j .none := by
      rw [List.getD_eq_getElem?_getD, List.getD_eq_getElem?_getD, List.getElem?_append_left (by omega)]
    rw [this]
    exact q.mono fun _ hz => .tail _ hz
  · obtain rfl : j = i := by omega
    have : (ys ++ [y]).getD j .none = y := by
      rw [List.getD_eq_getElem?_getD, List.getElem?_append_right (by omega), hl]; simp
    rw [this]; exact hy
/-- what a pair's evaluation leaves -/
noncomputable def KWt (news0 tl : List (Addr × Obj)) (b : Int) (i : Nat) (y : Value) (news' : List (Addr × Obj)) : Prop := ∃ a t u k, y = .ref a ∧ news' = news0 ++ (a, tupO b (i : Int) t u k) :: tl
open LCg
section
variable {prog : Program} {w : World} {A : Around} {h₀ : Heap} {L : Addr} {m : Str → Option Value} {env : Env} {elt : PySem.Expr} {x : Str} {scope : Scope} {cl : List (Str × Addr)} {s : Shared} {P : Nat → Value → Prop} {Fin : List Value → List (Addr × Obj) → Prop} {news0 : List (Addr × Obj)}
theorem wait_rest {n : Nat} (bl : List Int) (hP : ∀ i v, P i v → ∃ t, v = .int ((0 : Int) + (i : Int)) t)
    (turn : ∀ (i : Nat) t tl ys I oI C oC D m₂ h tk (E' : Value → Shared → Prop), i < n → NsObj oC m₂ → m₂ x = some (.int (i : Int) t) → Fr h₀ L h m → News h₀ L h ((I, oI) :: (C, oC) :: (D, lst ys) :: (news0 ++ tl)) → Off3 I C D (news0 ++ tl) → ((@Ne Nat I C) ∧ (@Ne Nat I D) ∧ (@Ne Nat C D)) →
      wpAny (model prog w) A (eval elt (compEnvC scope cl C env)) (CompEnd h₀ L m { s with heap := h, toks := tk } I oI C oC D (lst ys) (fun _ => True) (fun y news' => KWt news0 tl (bl.getD i 0) i y news')) E' { s with heap := h, toks := tk })
    (fin : ∀ tl ys, HV tl ys (wps bl n) → Fin ys (news0 ++ tl)) : CompRest prog w A h₀ L m env elt x scope cl s (fun _ => True) P Fin n 0 [] news0 := by
  have key : ∀ (j i : Nat) (tl : List (Addr × Obj)) (ys : List Value), i + j = n → HV tl ys (wps bl i) → CompRest prog w A h₀ L m env elt x scope cl s (fun _ => True) P Fin j i ys (news0 ++ tl) := by
    intro j
    induction j with
    | zero =>
      intro i tl ys hi hy
      obtain rfl : i = n := by omega
      exact CompRest.zero (fin tl ys hy)
    | succ j ih =>
      intro i tl ys hi hy
      refine CompRest.succ ?_
      intro v I oI C oC D m₂ h tk E' hv hC hx F N off ne
      obtain ⟨t, rfl⟩ := hP i v hv
      rw [Int.zero_add] at hx
      refine wpAny_mono (turn i t tl ys I oI C oC D m₂ h tk E' (by omega) hC hx F N off ne) (fun y s₂ hq => ?_) fun _ _ e => e
      obtain ⟨h', tk', nw, e, F', N', off', hS, a, t', u', k', rfl, rfl⟩ := hq
      exact ⟨h', tk', _, e, F', N', off', hS, ih (i + 1) _ _ (by omega) (hy.more ⟨a, t', u', k', rfl, .head _⟩)⟩
  have := key n 0 [] [] (by omega) ⟨rfl, fun j hj => by simp [wps] at hj⟩
  rwa [List.append_nil] at this
end
theorem off1_mem {D : Addr} : ∀ {l : List (Addr × Obj)}, Off1 D l → ∀ p ∈ l, p.1 ≠ D
  | [], _, _, h => nomatch h
  | _ :: _, x, p, h => by
    rcases List.mem_cons.mp h with rfl | h
    · exact x.1
    · exact off1_mem x.2 p h
end
-- Cmp
section
open PySem.Spec
set_option maxRecDepth 100000
noncomputable def pairD (p : PP) : PyData := .tuple [.int p.1, .int p.2]
theorem reads_pairs {h₀ h : Heap} {L : Addr} {news tl : List (Addr × Obj)} (N : News h₀ L h news) (hs : ∀ z ∈ tl, z ∈ news) : ∀ {vs : List Value} {ps : List PP}, HV tl vs ps → ReadsAll h vs (ps.map pairD) []
  | [], [], _ => .nil
  | [], _ :: _, hv => by have := hv.1; simp at this
  | _ :: _, [], hv => by have := hv.1; simp at this
  | v :: vs, p :: ps, hv => by
    obtain ⟨a, t, u, n, e, hm⟩ := hv.2 0 (by simp)
    simp only [List.getD_cons_zero] at e hm
    subst e
    have r : Reads h (.ref a) (pairD p) [] := Reads.tuple (N _ (hs _ hm)).1 rfl rfl (readsAll_cons_val (.int _ _) (readsAll_cons_val (.int _ _) .nil))
    exact readsAll_cons_val r (reads_pairs N hs ⟨by have := hv.1; simpa using this, fun j hj => by simpa using hv.2 (j + 1) (by simp; omega)⟩)
theorem canLay_pairs : ∀ ps : List PP, PyData.canLayAll0 (ps.map pairD) = true
  | [] => rfl
  | p :: r => by simp [PyData.canLayAll0, PyData.canLay0, pairD, canLay_pairs r]
theorem depth_pairs : ∀ ps : List PP, PyData.depthAll (ps.map pairD) ≤ 8
  | [] => by simp [PyData.depthAll]
  | p :: r => by
    have := depth_pairs r
    simp only [List.map_cons, PyData.depthAll, PyData.depth, pairD]
    omega
theorem shaped_pairs (ps : List PP) : SeqAt.shaped (.list (ps.map pairD)) = true := by
  have h1 := depth_pairs ps
  have h2 : PyData.depth (.list (ps.map pairD)) ≤ 64 := by simp only [PyData.depth]; omega
  show (PyData.canLay0 (.list (ps.map pairD)) && decide (PyData.depth (.list (ps.map pairD)) ≤ 64)) = true
  rw [Bool.and_eq_true]
  exact ⟨by simp only [PyData.canLay0]; exact canLay_pairs ps, decide_eq_true h2⟩
theorem eqv_pairs_nil (ps : List PP) : PyData.eqv (.list (ps.map pairD)) (.list []) = decide (ps = []) := by
  cases ps with
  | nil => simp [PyData.eqv, PyData.eqvAll]
  | cons a r => simp [PyData.eqv, PyData.eqvAll]
section
variable {prog : Program} {w : World} {A : Around} {E : Value → Shared → Prop} {s : Shared} {a b : Addr} {vs us : List Value} {ps : List PP} {n k : Nat} {h₀ : Heap} {L : Addr} {news tl : List (Addr × Obj)} {Q : Value → Shared → Prop}
theorem ne_pairs_nil (N : News h₀ L s.heap news) (hm : (a, listOf vs.toArray n) ∈ news) (hv : HV tl vs ps) (hs : ∀ z ∈ tl, z ∈ news) (hm2 : (b, listOf #[] k) ∈ news) (hu : A.units + 64 < cLine) (h : Q (.bool (!decide (ps = []))) s) :
    wpAny (model prog w) A (compareOp .NotEq (.ref a) (.ref b)) Q E s :=
  ne_dataH (reads_list_at (N _ hm).1 rfl rfl (by simpa using reads_pairs N hs hv)) (reads_list_at (N _ hm2).1 rfl rfl (by exact .nil)) (shaped_pairs ps) (by exact shaped_pairs []) hu (by rw [eqv_pairs_nil]; exact h)
theorem eq_pairs_nil (N : News h₀ L s.heap news) (hm : (a, listOf vs.toArray n) ∈ news) (hv : HV tl vs ps) (hs : ∀ z ∈ tl, z ∈ news) (hm2 : (b, listOf #[] k) ∈ news) (hu : A.units + 64 < cLine) (h : Q (.bool (decide (ps = []))) s) :
    wpAny (model prog w) A (compareOp .Eq (.ref a) (.ref b)) Q E s :=
  eq_dataH (reads_list_at (N _ hm).1 rfl rfl (by simpa using reads_pairs N hs hv)) (reads_list_at (N _ hm2).1 rfl rfl (by exact .nil)) (shaped_pairs ps) (by exact shaped_pairs []) hu (by rw [eqv_pairs_nil]; exact h)
theorem eq_ints_led {ms ns : List Int} (N : News h₀ L s.heap news) (hm : (a, listOf vs.toArray n) ∈ news) (hv : IntsAre vs ms) (hm2 : (b, listOf us.toArray k) ∈ news) (hv2 : IntsAre us ns) (hu : A.units + 64 < cLine) (h : Q (.bool (decide (ms = ns))) s) :
    wpAny (model prog w) A (compareOp .Eq (.ref a) (.ref b)) Q E s :=
  eq_intsK (News.isList N hm) hv (News.isList N hm2) hv2 hu h
/-- an item of a list of pairs, a pair's item -/
theorem item_pair {value slice : PySem.Expr} {i : Int} {u : Tok} (N : News h₀ L s.heap news) (hm : (a, listOf vs.toArray n) ∈ news) (hv : HV tl vs ps) (h0 : 0 ≤ i) (h1 : i < ps.length) (hfit : i < 2 ^ 63) (h : ∀ c t t' k, (c, tupO (ps.getD i.toNat (0, 0)).1 (ps.getD i.toNat (0, 0)).2 t t' k) ∈ tl → Q (.ref c) s)
    (hs : subscripted slice false (.ref a) (.int i u) = operate [.ref a, .int i u] (getItem (.ref a) (.int i u)) := by with_unfolding_all rfl) (hg : ∀ r, letTemporaryGo value (.ref a) r = pure () := by intro _; with_unfolding_all rfl) :
    wpAny (model prog w) A (subscriptTail value slice (.ref a) (.int i u)) Q E s := by
  refine my_item N hm h0 (by rw [hv.1]; exact h1) hfit ?_ hs hg
  obtain ⟨c, t, t', k, e, hc⟩ := hv.at (k := i.toNat) (by omega)
  rw [e]; exact h c t t' k hc
theorem pair_fst {value slice : PySem.Expr} {x y : Int} {t t' u : Tok} {k : Nat} (N : News h₀ L s.heap news) (hm : (a, tupO x y t t' k) ∈ news) (h : Q (.int x t) s)
    (hs : subscripted slice false (.ref a) (.int 0 u) = operate [.ref a, .int 0 u] (getItem (.ref a) (.int 0 u)) := by with_unfolding_all rfl) (hg : ∀ r, letTemporaryGo value (.ref a) r = pure () := by intro _; with_unfolding_all rfl) :
    wpAny (model prog w) A (subscriptTail value slice (.ref a) (.int 0 u)) Q E s :=
  kim_tup (l := [.int x t, .int y t']) (j := 0) N hm rfl rfl (by decide) (by decide) rfl rfl h hs hg
theorem pair_snd {value slice : PySem.Expr} {x y : Int} {t t' u : Tok} {k : Nat} (N : News h₀ L s.heap news) (hm : (a, tupO x y t t' k) ∈ news) (h : Q (.int y t') s)
    (hs : subscripted slice false (.ref a) (.int 1 u) = operate [.ref a, .int 1 u] (getItem (.ref a) (.int 1 u)) := by with_unfolding_all rfl) (hg : ∀ r, letTemporaryGo value (.ref a) r = pure () := by intro _; with_unfolding_all rfl) :
    wpAny (model prog w) A (subscriptTail value slice (.ref a) (.int 1 u)) Q E s :=
  kim_tup (l := [.int x t, .int y t']) (j := 1) N hm rfl rfl (by decide) (by decide) rfl rfl h hs hg
end
end
-- PLev
section
theorem cost_nonneg (x y : Nat) : 0 ≤ cost x y := by unfold cost; split; · omega
                                                     · split <;> omega
theorem cost_le (x y : Nat) : cost x y ≤ 2 := by unfold cost; split; · omega
                                                 · split <;> omega
theorem cost_self (x : Nat) : cost x x = 0 := by unfold cost; rw [if_pos rfl]
theorem cost_comm (x y : Nat) : cost x y = cost y x := by
  unfold cost
  by_cases h : x = y
  · subst h; rfl
  · rw [if_neg h, if_neg (fun e : y = x => h e.symm)]
    by_cases h2 : low x = low y
    · rw [if_pos h2, if_pos h2.symm]
    · rw [if_neg h2, if_neg (fun e : low y = low x => h2 e.symm)]
/-- the distance, on texts read from the end -/
noncomputable def ed : List Nat → List Nat → Int
  | [], b => 2 * (b.length : Int)
  | x :: a, [] => 2 * ((x :: a).length : Int)
  | x :: a, y :: b => min (ed a b + cost x y) (min (ed (x :: a) b + 2) (ed a (y :: b) + 2))
termination_by a b => a.length + b.length
theorem ed_l (b : List Nat) : ed [] b = 2 * (b.length : Int) := by rw [ed]
theorem ed_r (a : List Nat) : ed a [] = 2 * (a.length : Int) := by cases a <;> rw [ed]
theorem ed_c (x y : Nat) (a b : List Nat) : ed (x :: a) (y :: b) = min (ed a b + cost x y) (min (ed (x :: a) b + 2) (ed a (y :: b) + 2)) := by rw [ed]
theorem two_ind {P : List Nat → List Nat → Prop} (h1 : ∀ b, P [] b) (h2 : ∀ x a, P (x :: a) []) (h3 : ∀ x a y b, P a b → P (x :: a) b → P a (y :: b) → P (x :: a) (y :: b)) : ∀ a b, P a b := by
  intro a
  induction a with
  | nil => exact h1
  | cons x a ih =>
    intro b
    induction b with
    | nil => exact h2 x a
    | cons y b ihb => exact h3 x a y b (ih b) ihb (ih (y :: b))
theorem ed_sym : ∀ a b, ed a b = ed b a := by
  apply two_ind
  · intro b; rw [ed_l, ed_r]
  · intro x a; rw [ed_l, ed_r]
  · intro x a y b h1 h2 h3
    rw [ed_c, ed_c, h1, h2, h3, cost_comm x y]; omega
theorem ed_up_r (a : List Nat) (y : Nat) (b : List Nat) : ed a (y :: b) ≤ ed a b + 2 := by
  cases a with
  | nil => rw [ed_l, ed_l, List.length_cons]; omega
  | cons x a => rw [ed_c]; omega
theorem ed_lip_l (x : Nat) (a : List Nat) : ∀ b, ed a b ≤ ed (x :: a) b + 2 := by
  intro b
  induction b with
  | nil => rw [ed_r, ed_r, List.length_cons]; omega
  | cons y b ih =>
    have h1 := ed_up_r a y b
    have h2 := cost_nonneg x y
    rw [ed_c]; omega
theorem ed_lip_r (a : List Nat) (y : Nat) (b : List Nat) : ed a b ≤ ed a (y :: b) + 2 := by
  rw [ed_sym a b, ed_sym a (y :: b)]; exact ed_lip_l y b a
theorem ed_front (x : Nat) (a b : List Nat) : ed (x :: a) (x :: b) = ed a b := by
  have h1 := ed_lip_l x a b
  have h2 := ed_lip_r a x b
  rw [ed_c, cost_self]; omega
theorem ed_one (x : Nat) : ∀ b : List Nat, ed [x] (b ++ [x]) = 2 * (b.length : Int) := by
  intro b
  induction b with
  | nil => rw [List.nil_append, ed_front, ed_l]
  | cons y b ih =>
    have h2 := cost_nonneg x y
    rw [List.cons_append, ed_c, ih, ed_l, ed_l]
    simp only [List.length_append, List.length_cons, List.length_nil]
    omega
theorem ed_back (z : Nat) : ∀ a b, ed (a ++ [z]) (b ++ [z]) = ed a b := by
  apply two_ind
  · intro b; rw [List.nil_append, ed_one, ed_l]
  · intro x a; rw [List.nil_append, ed_sym, ed_one, ed_r]
  · intro x a y b h1 h2 h3
    simp only [List.cons_append] at h1 h2 h3 ⊢
    rw [ed_c, ed_c, h1, h2, h3]
theorem ed_low : ∀ a b, 2 * ((b.length : Int) - a.length) ≤ ed a b := by
  apply two_ind
  · intro b; rw [ed_l]; simp only [List.length_nil]; omega
  · intro x a; rw [ed_r]; simp only [List.length_nil, List.length_cons]; omega
  · intro x a y b h1 h2 h3
    have := cost_nonneg x y
    simp only [List.length_cons] at *
    rw [ed_c]; omega
theorem ed_same : ∀ a, ed a a = 0
  | [] => by rw [ed_l]; rfl
  | x :: a => by rw [ed_front, ed_same a]
/-- trimming -/
noncomputable def dis (a b : List Nat) : Int := ed a.reverse b.reverse
theorem ed_pre : ∀ u v : List Nat, ed u v = ed (u.drop (cp u v)) (v.drop (cp u v)) := by
  intro u
  induction u with
  | nil => intro v; simp [cp]
  | cons x u ih =>
    intro v
    cases v with
    | nil => simp [cp]
    | cons y v =>
      unfold cp
      by_cases h : x = y
      · subst h
        rw [if_pos rfl, List.drop_succ_cons, List.drop_succ_cons, ed_front]; exact ih v
      · rw [if_neg h]; rfl
theorem dis_pre : ∀ u v : List Nat, dis u v = dis (u.drop (cp u v)) (v.drop (cp u v)) := by
  intro u
  induction u with
  | nil => intro v; simp [cp]
  | cons x u ih =>
    intro v
    cases v with
    | nil => simp [cp]
    | cons y v =>
      unfold cp
      by_cases h : x = y
      · subst h
        rw [if_pos rfl, List.drop_succ_cons, List.drop_succ_cons, ← ih v]
        unfold dis
        rw [List.reverse_cons, List.reverse_cons, ed_back]
      · rw [if_neg h]; rfl
theorem rev_trim {a : List Nat} {c : Nat} (h : c ≤ a.length) : (a.take (a.length - c)).reverse = a.reverse.drop c := by
  rw [List.reverse_take]
  congr 1
  omega
theorem dis_suf (a b : List Nat) : dis a b = dis (a.take (a.length - cp a.reverse b.reverse)) (b.take (b.length - cp a.reverse b.reverse)) := by
  have h1 := cp_le1 a.reverse b.reverse
  have h2 := cp_le2 a.reverse b.reverse
  rw [List.length_reverse] at h1 h2
  unfold dis
  rw [rev_trim h1, rev_trim h2]
  exact ed_pre _ _
theorem dis_trim (la lb : List Nat) : dis la lb = dis (trim la (cp la lb) (cp (la.drop (cp la lb)).reverse (lb.drop (cp la lb)).reverse)) (trim lb (cp la lb) (cp (la.drop (cp la lb)).reverse (lb.drop (cp la lb)).reverse)) := by
  unfold trim
  rw [← dis_suf]
  exact dis_pre la lb
/-- one row of the table -/
noncomputable def rowE (ra rb : List Nat) : List Nat → List Int
  | [] => []
  | x :: as => ed (x :: ra) rb :: rowE (x :: ra) rb as
termination_by as => as.length
theorem rowE_nil (ra rb : List Nat) : rowE ra rb [] = [] := by rw [rowE]
theorem rowE_cons (ra rb : List Nat) (x : Nat) (as : List Nat) : rowE ra rb (x :: as) = ed (x :: ra) rb :: rowE (x :: ra) rb as := by rw [rowE]
theorem cv_min (d res r c : Int) : cv d res r c = min (d + c) (min (r + 2) (res + 2)) := by
  unfold cv; split <;> split at * <;> omega
theorem cv_ed {ra rb : List Nat} {x bc : Nat} {d res : Int} (hd : d = ed ra rb) (hr : res = ed ra (bc :: rb) ∨ ra = [] ∧ res = 2 * (rb.length : Int)) : cv d res (ed (x :: ra) rb) (cost bc x) = ed (x :: ra) (bc :: rb) := by
  have h2 := cost_le bc x
  rw [cv_min, ed_c, cost_comm x bc]
  rcases hr with hr | ⟨rfl, hr⟩
  · rw [hd, hr]
  · rw [ed_l] at hd
    rw [ed_l, ed_l, List.length_cons, hd, hr]
    generalize ed [x] rb = e
    generalize cost bc x = c at *
    clear hd hr
    omega
theorem cells_ed (bc : Nat) (rb : List Nat) : ∀ (as ra : List Nat) (d res mn : Int), d = ed ra rb → (res = ed ra (bc :: rb) ∨ ra = [] ∧ res = 2 * (rb.length : Int)) →
    (cellsF bc as (rowE ra rb as) d res mn).1 = rowE ra (bc :: rb) as ∧ (as ≠ [] → (cellsF bc as (rowE ra rb as) d res mn).2.1 = ed (as.reverse ++ ra) (bc :: rb)) ∧
    (∀ v ∈ rowE ra (bc :: rb) as, (cellsF bc as (rowE ra rb as) d res mn).2.2 ≤ v) ∧ (cellsF bc as (rowE ra rb as) d res mn).2.2 ≤ mn := by
  intro as
  induction as with
  | nil =>
    intro ra d res mn _ _
    rw [cells_nil, rowE_nil, rowE_nil]
    exact ⟨rfl, fun h => absurd rfl h, fun _ h => (nomatch h), Int.le_refl _⟩
  | cons x as ih =>
    intro ra d res mn hd hr
    rw [rowE_cons, rowE_cons, cellsF, cv_ed hd hr]
    have hq : (if ed (x :: ra) (bc :: rb) < mn then ed (x :: ra) (bc :: rb) else mn) ≤ ed (x :: ra) (bc :: rb) ∧ (if ed (x :: ra) (bc :: rb) < mn then ed (x :: ra) (bc :: rb) else mn) ≤ mn := by split <;> omega
    generalize (if ed (x :: ra) (bc :: rb) < mn then ed (x :: ra) (bc :: rb) else mn) = q at *
    obtain ⟨i1, i2, i3, i4⟩ := ih (x :: ra) (ed (x :: ra) rb) (ed (x :: ra) (bc :: rb)) q rfl (.inl rfl)
    refine ⟨by rw [i1], fun _ => ?_, ?_, ?_⟩
    · dsimp only
      by_cases e : as = []
      · subst e; rw [cells_nil]; rfl
      · rw [i2 e, List.reverse_cons, List.append_assoc]; rfl
    · intro v hv
      dsimp only
      rcases List.mem_cons.mp hv with rfl | hv
      · omega
      · exact i3 v hv
    · dsimp only; omega
theorem row_step {M : Int} (y : Nat) (rb : List Nat) : ∀ (as ra : List Nat), (∀ v ∈ rowE ra rb as, M ≤ v) → M ≤ ed ra rb → M ≤ ed ra (y :: rb) → ∀ v ∈ rowE ra (y :: rb) as, M ≤ v := by
  intro as
  induction as with
  | nil => intro ra _ _ _ v hv; rw [rowE_nil] at hv; cases hv
  | cons x as ih =>
    intro ra h1 h2 h3 v hv
    rw [rowE_cons] at h1 hv
    have h4 := h1 _ (.head _)
    have h5 := cost_nonneg x y
    have h6 : M ≤ ed (x :: ra) (y :: rb) := by rw [ed_c]; omega
    rcases List.mem_cons.mp hv with rfl | hv
    · exact h6
    · exact ih (x :: ra) (fun v hv => h1 v (.tail _ hv)) h4 h6 v hv
theorem row_last : ∀ (as ra rb : List Nat), as ≠ [] → ed (as.reverse ++ ra) rb ∈ rowE ra rb as := by
  intro as
  induction as with
  | nil => intro _ _ h; exact absurd rfl h
  | cons x as ih =>
    intro ra rb _
    rw [rowE_cons, List.reverse_cons, List.append_assoc]
    by_cases e : as = []
    · subst e; exact .head _
    · exact .tail _ (ih (x :: ra) rb e)
theorem row_low {M : Int} {as : List Nat} (ha : as ≠ []) : ∀ (bs rb : List Nat), rb ≠ [] → (∀ v ∈ rowE [] rb as, M ≤ v) → M ≤ ed as.reverse (bs.reverse ++ rb) := by
  intro bs
  induction bs with
  | nil =>
    intro rb _ h
    have := row_last as [] rb ha
    rw [List.append_nil] at this
    exact h _ this
  | cons y bs ih =>
    intro rb hb h
    rw [List.reverse_cons, List.append_assoc]
    refine ih (y :: rb) (by simp) ?_
    obtain ⟨x, as', rfl⟩ : ∃ x as', as = x :: as' := by
      cases as with
      | nil => exact absurd rfl ha
      | cons x as => exact ⟨x, as, rfl⟩
    obtain ⟨z, rb', rfl⟩ : ∃ z rb', rb = z :: rb' := by
      cases rb with
      | nil => exact absurd rfl hb
      | cons z r => exact ⟨z, r, rfl⟩
    have h1 : M ≤ ed [x] (z :: rb') := h _ (by rw [rowE_cons]; exact .head _)
    have h2 := cost_le x z
    rw [ed_c, ed_l] at h1
    refine row_step y (z :: rb') _ [] h ?_ ?_
    · rw [ed_l, List.length_cons]; omega
    · rw [ed_l, List.length_cons, List.length_cons]; omega
theorem rows_ed {as : List Nat} {mx : Int} (ha : as ≠ []) : ∀ (bs rb : List Nat) (i res : Int), i = rb.length → (bs = [] → res = ed as.reverse rb) → ed as.reverse (bs.reverse ++ rb) ≤ mx →
    rowsF as mx bs i (rowE [] rb as) res = ed as.reverse (bs.reverse ++ rb) := by
  intro bs
  induction bs with
  | nil => intro rb i res _ h _; rw [rowsF]; exact h rfl
  | cons y bs ih =>
    intro rb i res hi _ hm
    rw [List.reverse_cons, List.append_assoc] at hm ⊢
    obtain ⟨c1, c2, c3, _⟩ := cells_ed y rb as [] (i * 2) (i * 2) 9223372036854775807 (by rw [ed_l]; omega) (.inr ⟨rfl, by omega⟩)
    have hlow := row_low ha bs (y :: rb) (by simp) c3
    rw [rowsF, if_neg (by have : bs.reverse ++ ([y] ++ rb) = bs.reverse ++ (y :: rb) := rfl
                          rw [this] at hm; omega), c1]
    exact ih (y :: rb) (i + 1) _ (by rw [List.length_cons]; omega) (fun _ => by rw [c2 ha, List.append_nil]) hm
theorem row0_ed : ∀ (as ra : List Nat), rowE ra [] as = (List.range as.length).map fun i : Nat => 2 * ((i : Int) + (ra.length : Int) + 1) := by
  intro as
  induction as with
  | nil => intro ra; rw [rowE_nil]; rfl
  | cons x as ih =>
    intro ra
    rw [rowE_cons, ih, ed_r, List.length_cons, List.length_cons, List.range_succ_eq_map, List.map_cons, List.map_map]
    congr 1
    · simp
    · apply List.map_congr_left
      intro i _
      simp only [Function.comp, Int.natCast_succ]
      omega
theorem dp_ed {a b : List Nat} (ha : a ≠ []) (hb : b ≠ []) : dpF (a, b) (dis a b) = dis a b := by
  have h1 := ed_low a.reverse b.reverse
  rw [List.length_reverse, List.length_reverse] at h1
  unfold dpF
  rw [if_neg (by unfold dis; dsimp only; omega)]
  dsimp only
  have e : row0 a.length = rowE [] [] a := by
    rw [row0_ed]; unfold row0
    apply List.map_congr_left
    intro i _
    simp
  rw [e, rows_ed ha b [] 0 0 rfl (fun h => absurd h hb) (by rw [List.append_nil]; exact Int.le_refl _), List.append_nil]
  rfl
theorem lev_dis (la lb : List Nat) : levF la lb (dis la lb) = dis la lb := by
  unfold levF
  by_cases h : la = lb
  · subst h; rw [if_pos rfl]; unfold dis; rw [ed_same]
  · rw [if_neg h]
    dsimp only
    rw [dis_trim la lb]
    generalize trim la (cp la lb) (cp (la.drop (cp la lb)).reverse (lb.drop (cp la lb)).reverse) = a
    generalize trim lb (cp la lb) (cp (la.drop (cp la lb)).reverse (lb.drop (cp la lb)).reverse) = b
    by_cases h2 : a = [] ∨ b = []
    · rw [if_pos h2]
      unfold dis
      rcases h2 with rfl | rfl
      · rw [List.reverse_nil, ed_l, List.length_reverse]; simp
      · rw [List.reverse_nil, ed_r, List.length_reverse]; simp
    · rw [if_neg h2]
      have ha : a ≠ [] := fun e => h2 (.inl e)
      have hb : b ≠ [] := fun e => h2 (.inr e)
      by_cases h3 : b.length < a.length
      · rw [if_pos h3]
        have e : dis a b = dis b a := by unfold dis; exact ed_sym _ _
        rw [e]; exact dp_ed hb ha
      · rw [if_neg h3]; exact dp_ed ha hb
end
-- PSea
section
/-- a row's crossings, on bits: did the thread begin below the threshold? -/
noncomputable def rowM : List Bool → List Bool → Bool → List Bool × Bool
  | e :: es, t :: ts, g => match (bif e then rowM es ts t else rowM es ts (g || t)) with | (r, o) => ((bif e then g else (g && t)) :: r, o)
  | _, ts, g => (ts, g)
noncomputable def rowsM : List (List Bool) → List Bool → List Bool → List Bool × List Bool
  | es :: r, ts, g :: gs => match rowM es ts g with | (a, o) => match rowsM r a gs with | (b, os) => (b, o :: os)
  | _, ts, _ => (ts, [])
noncomputable def patC : List (List Bool) := [[false, false, false, false], [false, false, false, true], [false, false, true, false], [false, false, true, true], [false, true, false, false], [false, true, false, true], [false, true, true, false], [false, true, true, true], [true, true, false, false], [true, true, false, true], [true, true, true, false], [true, true, true, true]]
noncomputable def patR : List (List Bool) := [[false, false, false, false], [false, false, false, true], [false, false, true, false], [false, false, true, true], [true, false, false, false], [true, false, false, true], [true, false, true, false], [true, false, true, true], [true, true, false, false], [true, true, false, true], [true, true, true, false], [true, true, true, true]]
noncomputable def eqM (k : Nat) : List (List Bool) := [[true, false, false, false], [false, true, false, false], [false, false, Nat.ble k 1, false], [false, false, false, Nat.ble k 0]]
noncomputable def inC : List Bool → Bool
  | [a, b, _, _] => !a || b
  | _ => false
noncomputable def inR : List Bool → Bool
  | [a, b, _, _] => a || !b
  | _ => false
noncomputable def cn : List Bool → Nat
  | true :: r => cn r + 1
  | false :: r => cn r
  | [] => 0
noncomputable def mnB (a b : Nat) : Nat := bif Nat.ble a b then a else b
noncomputable def okM (k : Nat) (r c : List Bool) : Bool :=
  match rowsM (eqM k) c r with
  | (c', r') => inC c' && (inR r' && (Nat.beq (cn c' + mnB k (mnB (cn r) (4 - cn c))) (cn r) && Nat.beq (cn c' + cn r') (cn r + cn c)))
set_option maxRecDepth 100000 in
theorem all_okM : ([0, 1, 2].all fun k => patR.all fun r => patC.all fun c => okM k r c) = true := by decide +kernel
theorem inC_mem {c : List Bool} (h : inC c = true) : c ∈ patC := by
  rcases c with _ | ⟨a, _ | ⟨b, _ | ⟨d, _ | ⟨e, _ | ⟨f, r⟩⟩⟩⟩⟩ <;> simp only [inC, Bool.false_eq_true] at h
  revert h; revert a b d e; decide
theorem inR_mem {c : List Bool} (h : inR c = true) : c ∈ patR := by
  rcases c with _ | ⟨a, _ | ⟨b, _ | ⟨d, _ | ⟨e, _ | ⟨f, r⟩⟩⟩⟩⟩ <;> simp only [inR, Bool.false_eq_true] at h
  revert h; revert a b d e; decide
theorem lenC : ∀ c ∈ patC, c.length = 4 ∧ cn c ≤ 4 := by decide
noncomputable def costc (x y : Int) : Nat := if x = y then 0 else if x.fdiv 2 = y.fdiv 2 then 1 else 2
theorem costc_mem (x y : Int) : costc x y ∈ [0, 1, 2] := by
  unfold costc; split
  · simp
  · split <;> simp
theorem cost_gl {x y : Int} (hx : 0 ≤ x ∧ x < 4) (hy : 0 ≤ y ∧ y < 4) : cost (gl x) (gl y) = (costc x y : Int) := by
  have e : x = 0 ∨ x = 1 ∨ x = 2 ∨ x = 3 := by omega
  have e' : y = 0 ∨ y = 1 ∨ y = 2 ∨ y = 3 := by omega
  rcases e with rfl | rfl | rfl | rfl <;> rcases e' with rfl | rfl | rfl | rfl <;> decide
noncomputable def mk4 (x : Int) : List Int := [0, 1, 2 + x.fdiv 2, 4 + x]
noncomputable def eqs (as ds : List Int) : List (List Bool) := as.map fun a => ds.map fun d => decide (a = d)
theorem eqs_mk {x y : Int} (hx : 0 ≤ x ∧ x < 4) (hy : 0 ≤ y ∧ y < 4) : eqs (mk4 x) (mk4 y) = eqM (costc x y) := by
  have e : x = 0 ∨ x = 1 ∨ x = 2 ∨ x = 3 := by omega
  have e' : y = 0 ∨ y = 1 ∨ y = 2 ∨ y = 3 := by omega
  rcases e with rfl | rfl | rfl | rfl <;> rcases e' with rfl | rfl | rfl | rfl <;> decide
theorem mnB_min (a b : Nat) : mnB a b = min a b := by
  unfold mnB
  by_cases h : a ≤ b
  · have : Nat.ble a b = true := Nat.ble_eq.mpr h
    rw [this, cond_true]; omega
  · have : Nat.ble a b = false := by
      cases e : Nat.ble a b with
      | false => rfl
      | true => exact absurd (Nat.ble_eq.mp e) h
    rw [this, cond_false]; omega
/-- one letter against one letter -/
theorem blk {x y : Int} {r c : List Bool} (hx : 0 ≤ x ∧ x < 4) (hy : 0 ≤ y ∧ y < 4) (hr : r ∈ patR) (hc : c ∈ patC) :
    ∃ c' r', rowsM (eqs (mk4 x) (mk4 y)) c r = (c', r') ∧ c' ∈ patC ∧ r' ∈ patR ∧ (cn c' : Int) + min (cost (gl x) (gl y)) (min (cn r : Int) (4 - (cn c : Int))) = (cn r : Int) ∧ (cn c' : Int) + (cn r' : Int) = (cn r : Int) + (cn c : Int) := by
  have h := List.all_eq_true.mp (List.all_eq_true.mp (List.all_eq_true.mp all_okM _ (costc_mem x y)) r hr) c hc
  unfold okM at h
  rw [eqs_mk hx hy]
  generalize rowsM (eqM (costc x y)) c r = o at h ⊢
  obtain ⟨c', r'⟩ := o
  simp only [Bool.and_eq_true, Nat.beq_eq, mnB_min] at h
  obtain ⟨h1, h2, h3, h4⟩ := h
  have h5 := (lenC c hc).2
  rw [cost_gl hx hy]
  exact ⟨c', r', rfl, inC_mem h1, inR_mem h2, by omega, by omega⟩
theorem rowM_len : ∀ (es ts : List Bool) (g : Bool), (rowM es ts g).1.length = ts.length
  | [], ts, _ => by unfold rowM; rfl
  | _ :: _, [], _ => by unfold rowM; rfl
  | e :: es, t :: ts, g => by
    unfold rowM
    cases e with
    | true => dsimp only [cond_true]; rw [List.length_cons, rowM_len es ts t, List.length_cons]
    | false => dsimp only [cond_false]; rw [List.length_cons, rowM_len es ts (g || t), List.length_cons]
theorem rowM_app : ∀ (e1 e2 t1 t2 : List Bool) (g : Bool), e1.length = t1.length → rowM (e1 ++ e2) (t1 ++ t2) g = ((rowM e1 t1 g).1 ++ (rowM e2 t2 (rowM e1 t1 g).2).1, (rowM e2 t2 (rowM e1 t1 g).2).2)
  | [], e2, [], t2, g, _ => by
    have : rowM [] [] g = ([], g) := by unfold rowM; rfl
    rw [this]; rfl
  | [], _, _ :: _, _, _, h => by simp at h
  | _ :: _, _, [], _, _, h => by simp at h
  | e :: e1, e2, t :: t1, t2, g, h => by
    have h' : e1.length = t1.length := by simpa using h
    rw [List.cons_append, List.cons_append, rowM]
    conv => rhs; rw [rowM]
    cases e with
    | true => dsimp only [cond_true]; rw [rowM_app e1 e2 t1 t2 t h']; rfl
    | false => dsimp only [cond_false]; rw [rowM_app e1 e2 t1 t2 (g || t) h']; rfl
theorem rowsM_nil (ts gs : List Bool) : rowsM [] ts gs = (ts, []) := by unfold rowsM; rfl
theorem rowsM_none (es : List Bool) (r : List (List Bool)) (ts : List Bool) : rowsM (es :: r) ts [] = (ts, []) := by unfold rowsM; rfl
theorem rowsM_cons (es : List Bool) (r : List (List Bool)) (ts : List Bool) (g : Bool) (gs : List Bool) : rowsM (es :: r) ts (g :: gs) = ((rowsM r (rowM es ts g).1 gs).1, (rowM es ts g).2 :: (rowsM r (rowM es ts g).1 gs).2) := by rw [rowsM]
theorem rowsM_cols : ∀ (as d1 d2 : List Int) (t1 t2 gs : List Bool), d1.length = t1.length → rowsM (eqs as (d1 ++ d2)) (t1 ++ t2) gs = ((rowsM (eqs as d1) t1 gs).1 ++ (rowsM (eqs as d2) t2 (rowsM (eqs as d1) t1 gs).2).1, (rowsM (eqs as d2) t2 (rowsM (eqs as d1) t1 gs).2).2)
  | [], d1, d2, t1, t2, gs, _ => by
    show rowsM [] _ _ = _
    rw [rowsM_nil]
    show _ = ((rowsM [] t1 gs).1 ++ (rowsM [] t2 (rowsM [] t1 gs).2).1, (rowsM [] t2 (rowsM [] t1 gs).2).2)
    rw [rowsM_nil, rowsM_nil]
  | a :: as, d1, d2, t1, t2, [], _ => by
    show rowsM (_ :: _) _ _ = ((rowsM (_ :: _) t1 []).1 ++ (rowsM (_ :: _) t2 (rowsM (_ :: _) t1 []).2).1, (rowsM (_ :: _) t2 (rowsM (_ :: _) t1 []).2).2)
    rw [rowsM_none, rowsM_none, rowsM_none]
  | a :: as, d1, d2, t1, t2, g :: gs, h => by
    have e1 : eqs (a :: as) (d1 ++ d2) = ((d1.map fun d => decide (a = d)) ++ (d2.map fun d => decide (a = d))) :: eqs as (d1 ++ d2) := by
      unfold eqs; rw [List.map_cons, List.map_append]
    have e2 : ∀ d, eqs (a :: as) d = (d.map fun d => decide (a = d)) :: eqs as d := fun _ => rfl
    rw [e1, e2 d1, e2 d2, rowsM_cons, rowM_app _ _ _ _ _ (by rw [List.length_map]; exact h), rowsM_cons]
    dsimp only
    rw [rowsM_cons, rowsM_cols as d1 d2 _ _ gs (by rw [rowM_len]; exact h)]
theorem rowsM_rows : ∀ (r1 r2 : List (List Bool)) (ts g1 g2 : List Bool), r1.length = g1.length → rowsM (r1 ++ r2) ts (g1 ++ g2) = ((rowsM r2 (rowsM r1 ts g1).1 g2).1, (rowsM r1 ts g1).2 ++ (rowsM r2 (rowsM r1 ts g1).1 g2).2)
  | [], r2, ts, [], g2, _ => by rw [rowsM_nil]; rfl
  | [], _, _, _ :: _, _, h => by simp at h
  | _ :: _, _, _, [], _, h => by simp at h
  | e :: r1, r2, ts, g :: g1, g2, h => by
    rw [List.cons_append, List.cons_append, rowsM_cons, rowsM_cons, rowsM_rows r1 r2 _ g1 g2 (by simpa using h)]; rfl
theorem rowM_true : ∀ (es : List Bool) (n : Nat), rowM es (List.replicate n true) true = (List.replicate n true, true)
  | [], n => by unfold rowM; rfl
  | _ :: _, 0 => by unfold rowM; rfl
  | e :: es, n + 1 => by
    rw [List.replicate_succ, rowM]
    cases e with
    | true => dsimp only [cond_true]; rw [rowM_true es n]
    | false => show ((true && true) :: (rowM es (List.replicate n true) true).1, (rowM es (List.replicate n true) true).2) = _; rw [rowM_true es n]; rfl
theorem rowsM_true : ∀ (rs : List (List Bool)) (n : Nat), rowsM rs (List.replicate n true) (List.replicate rs.length true) = (List.replicate n true, List.replicate rs.length true)
  | [], n => by rw [rowsM_nil]; rfl
  | e :: rs, n => by rw [List.length_cons, List.replicate_succ, rowsM_cons, rowM_true]; dsimp only; rw [rowsM_true rs n]
/-- the bits of the threads -/
noncomputable def th (T v : Int) : Bool := decide (v < T)
theorem rowT_bits (T mk : Int) : ∀ (ds ts : List Int) (g : Int), (rowT mk ds ts g).map (th T) = (rowM (ds.map fun d => decide (mk = d)) (ts.map (th T)) (th T g)).1
  | [], ts, _ => by rw [rowT_nil]; unfold rowM; rfl
  | _ :: _, [], _ => by unfold rowT rowM; rfl
  | d :: ds, t :: ts, g => by
    rw [rowT, List.map_cons, List.map_cons, List.map_cons, rowM]
    by_cases h : mk = d
    · rw [if_pos (.inl h), if_pos (.inl h), decide_eq_true h]
      dsimp only [cond_true]
      rw [rowT_bits T mk ds ts t]
    · rw [decide_eq_false h]
      dsimp only [cond_false]
      by_cases h2 : g > t
      · rw [if_pos (.inr h2), if_pos (.inr h2), rowT_bits T mk ds ts t]
        have e1 : (th T g && th T t) = th T g := by
          unfold th; by_cases q : g < T
          · rw [decide_eq_true q, decide_eq_true (by omega)]; rfl
          · rw [decide_eq_false q]; rfl
        have e2 : (th T g || th T t) = th T t := by
          unfold th; by_cases q : g < T
          · rw [decide_eq_true q, decide_eq_true (by omega)]; rfl
          · rw [decide_eq_false q, Bool.false_or]
        rw [e1, e2]
      · have h3 : ¬ (mk = d ∨ g > t) := by rintro (q | q) <;> contradiction
        rw [if_neg h3, if_neg h3, rowT_bits T mk ds ts g]
        have e1 : (th T g && th T t) = th T t := by
          unfold th; by_cases q : t < T
          · rw [decide_eq_true q, decide_eq_true (by omega)]; rfl
          · rw [decide_eq_false q, Bool.and_false]
        have e2 : (th T g || th T t) = th T g := by
          unfold th; by_cases q : t < T
          · rw [decide_eq_true q, decide_eq_true (by omega)]; rfl
          · rw [decide_eq_false q, Bool.or_false]
        rw [e1, e2]
theorem thrF_bits {T : Int} (hT : 0 ≤ T) (ds : List Int) : ∀ (as : List Int) (k : Int) (ts : List Int), 0 ≤ k → (thrF ds as k ts).map (th T) = (rowsM (eqs as ds) (ts.map (th T)) (List.replicate as.length true)).1
  | [], k, ts, _ => by
    unfold thrF
    show _ = (rowsM [] _ _).1
    rw [rowsM_nil]
  | a :: as, k, ts, hk => by
    have e : th T (-1 - k) = true := decide_eq_true (by omega)
    rw [thrF, thrF_bits hT ds as (k + 1) _ (by omega), rowT_bits, e]
    show _ = (rowsM ((ds.map fun d => decide (a = d)) :: eqs as ds) _ (List.replicate (as.length + 1) true)).1
    rw [List.replicate_succ, rowsM_cons]
/-- what the columns below a word's letters say -/
noncomputable def ColOK (ra : List Nat) : List Nat → List Int → List (List Bool) → Prop
  | rb, y :: ys, c :: cs => c ∈ patC ∧ (cn c : Int) = 2 - (ed ra (gl y :: rb) - ed ra rb) ∧ ColOK ra (gl y :: rb) ys cs
  | _, [], [] => True
  | _, _, _ => False
theorem marksF_cons (y : Int) (ys : List Int) : marksF (y :: ys) = mk4 y ++ marksF ys := by
  unfold marksF; rw [List.flatMap_cons]; rfl
theorem min3 (k e f g : Int) : min k (min (f - e + 2) (4 - (2 - (g - e)))) = min (e + k) (min (f + 2) (g + 2)) - e := by omega
theorem col_letter {x : Int} (hx : 0 ≤ x ∧ x < 4) (ra : List Nat) : ∀ (ys : List Int) (rb : List Nat) (cs : List (List Bool)) (r : List Bool), (∀ y ∈ ys, 0 ≤ y ∧ y < 4) → ColOK ra rb ys cs → r ∈ patR → (cn r : Int) = ed (gl x :: ra) rb - ed ra rb + 2 →
    ∃ cs', (rowsM (eqs (mk4 x) (marksF ys)) cs.flatten r).1 = cs'.flatten ∧ ColOK (gl x :: ra) rb ys cs'
  | [], rb, [], r, _, _, _, _ => by
    refine ⟨[], ?_, trivial⟩
    have : ∀ (as : List Int) (gs : List Bool), (rowsM (eqs as []) [] gs).1 = [] := by
      intro as
      induction as with
      | nil => intro gs; show (rowsM [] _ _).1 = _; rw [rowsM_nil]
      | cons a as ih =>
        intro gs
        cases gs with
        | nil => show (rowsM (_ :: _) _ _).1 = _; rw [rowsM_none]
        | cons g gs =>
          show (rowsM ([] :: eqs as []) _ _).1 = _
          rw [rowsM_cons]
          have e : rowM [] [] g = ([], g) := by unfold rowM; rfl
          rw [e]; exact ih gs
    exact this _ _
  | [], _, _ :: _, _, _, h, _, _ => by unfold ColOK at h; exact h.elim
  | _ :: _, _, [], _, _, h, _, _ => by unfold ColOK at h; exact h.elim
  | y :: ys, rb, c :: cs, r, hy, h, hr, hv => by
    unfold ColOK at h
    obtain ⟨hc, hh, hrest⟩ := h
    obtain ⟨c', r', e, hc', hr', e1, e2⟩ := blk hx (hy y (.head _)) hr hc
    have hE := ed_c (gl x) (gl y) ra rb
    have e4 : min (cost (gl x) (gl y)) (min (cn r : Int) (4 - (cn c : Int))) = ed (gl x :: ra) (gl y :: rb) - ed ra rb := by
      rw [hE, hv, hh]; exact min3 _ _ _ _
    rw [e4] at e1
    clear hE e4
    obtain ⟨cs', e3, hok⟩ := col_letter hx ra ys (gl y :: rb) cs r' (fun z hz => hy z (.tail _ hz)) hrest hr' (by omega)
    refine ⟨c' :: cs', ?_, ?_⟩
    · rw [marksF_cons, List.flatten_cons, rowsM_cols _ _ _ _ _ _ (by rw [(lenC c hc).1]; rfl), e, List.flatten_cons]
      dsimp only
      rw [e3]
    · unfold ColOK
      exact ⟨hc', by omega, hok⟩
theorem col_word (os : List Int) (ho : ∀ y ∈ os, 0 ≤ y ∧ y < 4) : ∀ (as : List Int) (ra : List Nat) (cs : List (List Bool)), (∀ x ∈ as, 0 ≤ x ∧ x < 4) → ColOK ra [] os cs →
    ∃ cs', (rowsM (eqs (marksF as) (marksF os)) cs.flatten (List.replicate (marksF as).length true)).1 = cs'.flatten ∧ ColOK ((as.map gl).reverse ++ ra) [] os cs'
  | [], ra, cs, _, h => ⟨cs, by show (rowsM [] _ _).1 = _; rw [rowsM_nil], h⟩
  | x :: as, ra, cs, ha, h => by
    obtain ⟨cs1, e1, h1⟩ := col_letter (ha x (.head _)) ra os [] cs [true, true, true, true] ho h (by decide) (by rw [ed_r, ed_r, List.length_cons]; simp [cn]; omega)
    obtain ⟨cs2, e2, h2⟩ := col_word os ho as (gl x :: ra) cs1 (fun z hz => ha z (.tail _ hz)) h1
    refine ⟨cs2, ?_, ?_⟩
    · have q1 : eqs (marksF (x :: as)) (marksF os) = eqs (mk4 x) (marksF os) ++ eqs (marksF as) (marksF os) := by
        rw [marksF_cons]; unfold eqs; rw [List.map_append]
      have q2 : List.replicate (marksF (x :: as)).length true = [true, true, true, true] ++ List.replicate (marksF as).length true := by
        rw [marksF_cons, List.length_append]
        show List.replicate (4 + _) true = _
        rw [← List.replicate_append_replicate]; rfl
      rw [q1, q2, rowsM_rows _ _ _ _ _ (by rfl)]
      dsimp only
      rw [e1, e2]
    · rw [List.map_cons, List.reverse_cons, List.append_assoc]; exact h2
theorem cn_app : ∀ a b : List Bool, cn (a ++ b) = cn a + cn b
  | [], b => by rw [List.nil_append]; simp [cn]
  | true :: a, b => by rw [List.cons_append, cn, cn, cn_app a b]; omega
  | false :: a, b => by rw [List.cons_append, cn, cn, cn_app a b]
theorem col_sum (ra : List Nat) : ∀ (ys : List Int) (rb : List Nat) (cs : List (List Bool)) (n : Nat), ColOK ra rb ys cs → n ≤ ys.length → (cn (cs.flatten.take (4 * n)) : Int) = 2 * (n : Int) - (ed ra (((ys.take n).map gl).reverse ++ rb) - ed ra rb)
  | ys, rb, cs, 0, _, _ => by simp [cn]
  | [], _, _, n + 1, _, h => by simp at h
  | _ :: _, _, [], _ + 1, h, _ => by unfold ColOK at h; exact h.elim
  | y :: ys, rb, c :: cs, n + 1, h, hn => by
    unfold ColOK at h
    obtain ⟨hc, hh, hrest⟩ := h
    have ih := col_sum ra ys (gl y :: rb) cs n hrest (by simpa using hn)
    have hl := (lenC c hc).1
    rw [List.flatten_cons, List.take_append, List.take_of_length_le (by omega), hl, cn_app, show 4 * (n + 1) - 4 = 4 * n by omega, List.take_succ_cons, List.map_cons, List.reverse_cons, List.append_assoc]
    show ((cn c + cn (cs.flatten.take (4 * n)) : Nat) : Int) = _
    have e : [gl y] ++ rb = gl y :: rb := rfl
    rw [e]
    omega
theorem col_start : ∀ (ys : List Int) (rb : List Nat), ∃ cs, ColOK [] rb ys cs ∧ cs.flatten = List.replicate (4 * ys.length) false
  | [], rb => ⟨[], trivial, rfl⟩
  | y :: ys, rb => by
    obtain ⟨cs, h, e⟩ := col_start ys (gl y :: rb)
    refine ⟨[false, false, false, false] :: cs, ?_, ?_⟩
    · unfold ColOK
      refine ⟨by decide, ?_, h⟩
      rw [ed_l, ed_l, List.length_cons]; simp [cn]; omega
    · rw [List.flatten_cons, e, List.length_cons, show 4 * (ys.length + 1) = 4 + 4 * ys.length by omega, ← List.replicate_append_replicate]; rfl
theorem start_bits (i m : Nat) (h : i ≤ m) : (rangeKs 0 (4 * m)).map (th (4 * (i : Int))) = List.replicate (4 * i) true ++ List.replicate (4 * (m - i)) false := by
  apply List.ext_getElem
  · simp [rangeKs_length]; omega
  · intro k h1 h2
    simp only [rangeKs, List.getElem_map, List.getElem_range, List.getElem_append, List.length_replicate, List.getElem_replicate, th]
    split
    · exact decide_eq_true (by omega)
    · exact decide_eq_false (by omega)
theorem marksF_len (ns : List Int) : (marksF ns).length = 4 * ns.length := by
  induction ns with
  | nil => rfl
  | cons a r ih => rw [marksF_cons, List.length_append, ih, List.length_cons]; show 4 + _ = _; omega
theorem marksF_app (a b : List Int) : marksF (a ++ b) = marksF a ++ marksF b := by unfold marksF; rw [List.flatMap_append]
theorem sea {as os : List Int} (ha : ∀ n ∈ as, 0 ≤ n ∧ n < 4) (ho : ∀ n ∈ os, 0 ≤ n ∧ n < 4) {i n : Nat} (hij : i + n ≤ os.length) :
    (cn ((((threadsF (marksF as) (marksF os)).map (th (4 * (i : Int)))).drop (4 * i)).take (4 * n)) : Int) = 2 * ((as.length : Int) + n) - dis (as.map gl) (((os.map gl).drop i).take n) := by
  have hlen : (marksF os).length = 4 * os.length := marksF_len os
  unfold threadsF
  rw [thrF_bits (by omega) _ _ _ _ (by omega), hlen, start_bits i os.length (by omega)]
  have e1 : marksF os = marksF (os.take i) ++ marksF (os.drop i) := by rw [← marksF_app, List.take_append_drop]
  rw [e1, rowsM_cols _ _ _ _ _ _ (by rw [marksF_len, List.length_take, List.length_replicate]; omega)]
  have e2 : (eqs (marksF as) (marksF (os.take i))).length = (marksF as).length := by unfold eqs; rw [List.length_map]
  have e3 := rowsM_true (eqs (marksF as) (marksF (os.take i))) (4 * i)
  rw [e2] at e3
  rw [e3]
  dsimp only
  obtain ⟨cs, h0, f0⟩ := col_start (os.drop i) []
  obtain ⟨cs', f1, h1⟩ := col_word (os.drop i) (fun y hy => ho y (List.mem_of_mem_drop hy)) as [] cs ha h0
  rw [f0, List.length_drop] at f1
  rw [f1, List.drop_append_of_le_length (by simp), List.drop_replicate, Nat.sub_self, List.replicate_zero, List.nil_append]
  have h2 := col_sum _ _ _ _ n h1 (by rw [List.length_drop]; omega)
  rw [List.append_nil, List.append_nil, ed_r, List.length_reverse, List.length_map] at h2
  rw [h2]
  unfold dis
  rw [List.map_take, List.map_drop]
  omega
end
-- PHeap
section
noncomputable def ple (p q : PP) : Prop := lexlt q p = false
theorem ple_iff (p q : PP) : ple p q ↔ p.1 < q.1 ∨ p.1 = q.1 ∧ p.2 ≤ q.2 := by
  unfold ple lexlt
  rw [decide_eq_false_iff_not]; omega
theorem lt_iff (p q : PP) : lexlt p q = true ↔ p.1 < q.1 ∨ p.1 = q.1 ∧ p.2 < q.2 := by unfold lexlt; rw [decide_eq_true_eq]
theorem ple_trans {p q r : PP} (h : ple p q) (g : ple q r) : ple p r := by rw [ple_iff] at *; omega
theorem ple_of_lt {p q : PP} (h : lexlt p q = true) : ple p q := by rw [lt_iff] at h; rw [ple_iff]; omega
theorem ple_refl (p : PP) : ple p p := by rw [ple_iff]; omega
abbrev at0 (hs : List PP) (j : Nat) : PP := hs.getD j (0, 0)
noncomputable def HF (s : Nat) (hs : List PP) : Prop := ∀ j, 0 < j → j < hs.length → s ≤ (j - 1) / 2 → ple (at0 hs ((j - 1) / 2)) (at0 hs j)
noncomputable def HX (s pos : Nat) (hs : List PP) : Prop := ∀ j, 0 < j → j < hs.length → s ≤ (j - 1) / 2 → j ≠ pos → (j - 1) / 2 ≠ pos → ple (at0 hs ((j - 1) / 2)) (at0 hs j)
noncomputable def BR (s pos : Nat) (hs : List PP) : Prop := ∀ j, 0 < j → j < hs.length → (j - 1) / 2 = pos → s < pos → ple (at0 hs ((pos - 1) / 2)) (at0 hs j)
noncomputable def ups : Nat → Nat → Nat
  | 0, p => p
  | n + 1, p => ups n ((p - 1) / 2)
noncomputable def Sub (s p : Nat) : Prop := ∃ n, ups n p = s
theorem half1 (p : Nat) : (p - 1) / 2 ≤ p := Nat.le_trans (Nat.div_le_self ..) (Nat.sub_le ..)
theorem ups_le : ∀ n p, ups n p ≤ p
  | 0, _ => Nat.le_refl _
  | n + 1, p => Nat.le_trans (ups_le n _) (half1 p)
theorem Sub.refl {s : Nat} : Sub s s := ⟨0, rfl⟩
theorem Sub.down {s p q : Nat} (h : Sub s p) (e : (q - 1) / 2 = p) : Sub s q := by
  obtain ⟨n, h1⟩ := h
  exact ⟨n + 1, by rw [ups, e]; exact h1⟩
theorem Sub.left {s p : Nat} (h : Sub s p) : Sub s (2 * p + 1) := h.down (Nat.mul_div_right p (Nat.succ_pos 1))
theorem Sub.right {s p : Nat} (h : Sub s p) : Sub s (2 * p + 2) := h.down (by omega)
theorem Sub.ge {s p : Nat} (h : Sub s p) : s ≤ p := by
  obtain ⟨n, rfl⟩ := h
  exact ups_le n p
theorem Sub.up {s p : Nat} (h : Sub s p) (hp : s < p) : Sub s ((p - 1) / 2) := by
  obtain ⟨n, h1⟩ := h
  cases n with
  | zero => exact absurd (Nat.lt_of_lt_of_eq hp h1) (Nat.lt_irrefl _)
  | succ n => exact ⟨n, h1⟩
theorem at_set {hs : List PP} {i j : Nat} {x : PP} (hi : i < hs.length) : at0 (hs.set i x) j = if i = j then x else at0 hs j := getD_set _ _ _ _ _ hi
theorem at_set_ne {hs : List PP} {i j : Nat} {x : PP} (hi : i < hs.length) (h : i ≠ j) : at0 (hs.set i x) j = at0 hs j := by rw [at_set hi, if_neg h]
theorem at_set_eq {hs : List PP} {i : Nat} {x : PP} (hi : i < hs.length) : at0 (hs.set i x) i = x := by rw [at_set hi, if_pos rfl]
theorem fill_heap {s pos : Nat} {x : PP} {hs : List PP} (hp : pos < hs.length) (h : HX s pos hs) (hc : ∀ j, 0 < j → j < hs.length → (j - 1) / 2 = pos → ple x (at0 hs j)) (hu : 0 < pos → s ≤ (pos - 1) / 2 → ple (at0 hs ((pos - 1) / 2)) x) : HF s (hs.set pos x) := by
  intro j h0 h1 h2
  rw [List.length_set] at h1
  by_cases e : j = pos
  · subst e
    rw [at_set_eq hp, at_set_ne hp (by omega)]; exact hu h0 h2
  · rw [at_set_ne (j := j) hp (fun q => e q.symm)]
    by_cases e2 : (j - 1) / 2 = pos
    · rw [e2, at_set_eq hp]; exact hc j h0 h1 e2
    · rw [at_set_ne hp (fun q => e2 q.symm)]; exact h j h0 h1 h2 e e2
theorem sdn_heap {s : Nat} {x : PP} : ∀ (pos : Nat) (hs : List PP), pos < hs.length → Sub s pos → HX s pos hs → BR s pos hs → (∀ j, 0 < j → j < hs.length → (j - 1) / 2 = pos → ple x (at0 hs j)) → HF s (sdn s x pos hs) := by
  intro pos
  induction pos using Nat.strongRecOn with
  | ind pos ih =>
    intro hs hp hS hX hB hC
    rw [sdn]
    by_cases h1 : s < pos
    · rw [dif_pos h1]
      have hq : (pos - 1) / 2 < pos := by omega
      have hS' := hS.up h1
      have hge := hS'.ge
      cases h2 : lexlt x (hs.getD ((pos - 1) / 2) (0, 0)) with
      | true =>
        rw [if_pos rfl]
        generalize hqe : (pos - 1) / 2 = q at *
        refine ih q hq _ (by rw [List.length_set]; omega) hS' ?_ ?_ ?_
        · intro j j0 j1 j2 j3 j4
          rw [List.length_set] at j1
          have e1 : pos ≠ j := fun e => j4 (by rw [← e]; exact hqe)
          rw [at_set_ne (j := j) hp e1]
          by_cases e2 : (j - 1) / 2 = pos
          · rw [e2, at_set_eq hp]
            have := hB j j0 j1 e2 h1
            rw [hqe] at this; exact this
          · rw [at_set_ne hp (fun e => e2 e.symm)]
            exact hX j j0 j1 j2 (fun e => e1 e.symm) e2
        · intro j j0 j1 j2 j3
          rw [List.length_set] at j1
          rw [at_set_ne (j := (q - 1) / 2) hp (by omega)]
          have hup : ple (at0 hs ((q - 1) / 2)) (at0 hs q) := hX q (by omega) (by omega) (hS'.up j3).ge (by omega) (by omega)
          by_cases e1 : pos = j
          · rw [← e1, at_set_eq hp]; exact hup
          · rw [at_set_ne hp e1]
            have := hX j j0 j1 (by omega) (fun e => e1 e.symm) (by omega)
            rw [j2] at this
            exact ple_trans hup this
        · intro j j0 j1 j2
          rw [List.length_set] at j1
          by_cases e1 : pos = j
          · rw [← e1, at_set_eq hp]; exact ple_of_lt h2
          · rw [at_set_ne hp e1]
            have := hX j j0 j1 (by omega) (fun e => e1 e.symm) (by omega)
            rw [j2] at this
            exact ple_trans (ple_of_lt h2) this
      | false =>
        rw [if_neg Bool.false_ne_true]
        exact fill_heap hp hX hC fun _ _ => h2
    · rw [dif_neg h1]
      have := hS.ge
      exact fill_heap hp hX hC fun h0 h2 => by omega
theorem sup_heap {s : Nat} {x : PP} : ∀ (k pos : Nat) (hs : List PP), hs.length - pos ≤ k → pos < hs.length → Sub s pos → HX s pos hs → BR s pos hs → HF s (sup s x pos hs) := by
  intro k
  induction k with
  | zero => intro pos hs h1 h2; omega
  | succ k ih =>
    intro pos hs hk hp hS hX hB
    have hge := hS.ge
    have step : ∀ c, pos < c → c < hs.length → (c - 1) / 2 = pos → Sub s c → (∀ j, 0 < j → j < hs.length → (j - 1) / 2 = pos → ple (at0 hs c) (at0 hs j)) → HF s (sup s x c (hs.set pos (at0 hs c))) := by
      intro c c0 c1 c2 c3 c4
      refine ih c _ (by rw [List.length_set]; omega) (by rw [List.length_set]; exact c1) c3 ?_ ?_
      · intro j j0 j1 j2 j3 j4
        rw [List.length_set] at j1
        by_cases e1 : pos = j
        · rw [← e1, at_set_eq hp, at_set_ne hp (by omega)]
          exact hB c (by omega) c1 c2 (by omega)
        · rw [at_set_ne (j := j) hp e1]
          by_cases e2 : (j - 1) / 2 = pos
          · rw [e2, at_set_eq hp]; exact c4 j j0 j1 e2
          · rw [at_set_ne hp (fun e => e2 e.symm)]; exact hX j j0 j1 j2 (fun e => e1 e.symm) e2
      · intro j j0 j1 j2 j3
        rw [List.length_set] at j1
        rw [c2, at_set_eq hp, at_set_ne hp (by omega)]
        have := hX j j0 j1 (by omega) (by omega) (by omega)
        rw [j2] at this; exact this
    rw [sup]
    by_cases h1 : 2 * pos + 1 < hs.length
    · rw [dif_pos h1]
      by_cases h2 : 2 * pos + 2 < hs.length ∧ lexlt (hs.getD (2 * pos + 1) (0, 0)) (hs.getD (2 * pos + 2) (0, 0)) = false
      · rw [if_pos h2]
        refine step (2 * pos + 2) (by omega) h2.1 (by omega) (.right hS) ?_
        intro j j0 j1 j2
        have e : j = 2 * pos + 1 ∨ j = 2 * pos + 2 := by omega
        rcases e with rfl | rfl
        · exact h2.2
        · exact ple_refl _
      · rw [if_neg h2]
        refine step (2 * pos + 1) (by omega) h1 (by omega) (.left hS) ?_
        intro j j0 j1 j2
        have e : j = 2 * pos + 1 ∨ j = 2 * pos + 2 := by omega
        rcases e with rfl | rfl
        · exact ple_refl _
        · cases h3 : lexlt (hs.getD (2 * pos + 1) (0, 0)) (hs.getD (2 * pos + 2) (0, 0)) with
          | true => exact ple_of_lt h3
          | false => exact absurd ⟨j1, h3⟩ h2
    · rw [dif_neg h1]
      refine sdn_heap pos _ (by rw [List.length_set]; exact hp) hS ?_ ?_ ?_
      · intro j j0 j1 j2 j3 j4
        rw [List.length_set] at j1
        rw [at_set_ne (j := j) hp (fun e => j3 e.symm), at_set_ne hp (fun e => j4 e.symm)]
        exact hX j j0 j1 j2 j3 j4
      · intro j j0 j1 j2
        rw [List.length_set] at j1; omega
      · intro j j0 j1 j2
        rw [List.length_set] at j1; omega
theorem sup_top {s : Nat} {x : PP} {hs : List PP} (hp : s < hs.length) (h : HF (s + 1) hs) : HF s (sup s x s hs) :=
  sup_heap _ s hs (Nat.le_refl _) hp .refl (fun j j0 j1 j2 _ j4 => h j j0 j1 (by omega)) (fun j _ _ _ j3 => absurd j3 (Nat.lt_irrefl _))
theorem heapF_heap : ∀ (k : Nat) (ps : List PP), k ≤ ps.length → HF k ps → HF 0 (heapF ps k)
  | 0, ps, _, h => by unfold heapF; exact h
  | k + 1, ps, hk, h => by
    unfold heapF
    exact heapF_heap k _ (by rw [sup_len _ _ _ _ _ (Nat.le_refl _)]; omega) (sup_top (by omega) h)
theorem swap_perm {hs : List PP} {p c : Nat} {x : PP} (hp : p < hs.length) (hc : c < hs.length) (hne : p ≠ c) : ((hs.set p (at0 hs c)).set c x).Perm (hs.set p x) := by
  rw [List.perm_iff_count]
  intro b
  have e1 : at0 hs c = hs[c] := by rw [at0, List.getD_eq_getElem?_getD, List.getElem?_eq_getElem hc]; rfl
  rw [List.count_set (by rw [List.length_set]; exact hc), List.count_set hp, List.count_set hp, List.getElem_set_ne hne, e1]
  generalize (if hs[c] == b then 1 else 0) = u
  omega
theorem set_self {hs : List PP} {p : Nat} (_hp : p < hs.length) : hs.set p (at0 hs p) = hs := by
  apply List.ext_getElem
  · rw [List.length_set]
  · intro j h1 h2
    rw [List.getElem_set]
    split
    · rename_i e; subst e
      rw [at0, List.getD_eq_getElem?_getD, List.getElem?_eq_getElem h2]; rfl
    · rfl
theorem sdn_perm {s : Nat} {x : PP} : ∀ (pos : Nat) (hs : List PP), pos < hs.length → (sdn s x pos hs).Perm (hs.set pos x) := by
  intro pos
  induction pos using Nat.strongRecOn with
  | ind pos ih =>
    intro hs hp
    rw [sdn]
    split
    · split
      · exact (ih _ (by omega) _ (by rw [List.length_set]; omega)).trans (swap_perm hp (by omega) (by omega))
      · exact .refl _
    · exact .refl _
theorem sup_perm {s : Nat} {x : PP} : ∀ (k pos : Nat) (hs : List PP), hs.length - pos ≤ k → pos < hs.length → (sup s x pos hs).Perm (hs.set pos x) := by
  intro k
  induction k with
  | zero => intro pos hs h1 h2; omega
  | succ k ih =>
    intro pos hs hk hp
    rw [sup]
    split
    · split
      · rename_i h2
        exact (ih _ _ (by rw [List.length_set]; omega) (by rw [List.length_set]; exact h2.1)).trans (swap_perm hp h2.1 (by omega))
      · rename_i h1 _
        exact (ih _ _ (by rw [List.length_set]; omega) (by rw [List.length_set]; exact h1)).trans (swap_perm hp h1 (by omega))
    · have := sdn_perm (s := s) (x := x) pos (hs.set pos x) (by rw [List.length_set]; exact hp)
      rwa [List.set_set] at this
theorem heapF_perm : ∀ (k : Nat) (ps : List PP), k ≤ ps.length → (heapF ps k).Perm ps
  | 0, ps, _ => by unfold heapF; exact .refl _
  | k + 1, ps, hk => by
    unfold heapF
    have h1 := sup_perm (s := k) (x := ps.getD k (0, 0)) _ k ps (Nat.le_refl _) (by omega)
    have e : ps.set k (ps.getD k (0, 0)) = ps := set_self (by omega)
    rw [e] at h1
    exact (heapF_perm k _ (by rw [h1.length_eq]; omega)).trans h1
theorem snoc_of {pw : List PP} (h : 0 < pw.length) : ∃ r z, pw = r ++ [z] := by
  have hp : pw ≠ [] := by intro e; rw [e] at h; simp at h
  exact ⟨_, _, (List.dropLast_concat_getLast hp).symm⟩
theorem popF_spec {pw : List PP} (h : 0 < pw.length) (hh : HF 0 pw) : (popF pw).1 = at0 pw 0 ∧ HF 0 (popF pw).2 ∧ pw.Perm ((popF pw).1 :: (popF pw).2) := by
  obtain ⟨r, z, rfl⟩ := snoc_of h
  cases r with
  | nil => rw [popF_one]; exact ⟨rfl, fun j _ h => by simp at h, .refl _⟩
  | cons y r =>
    rw [popF_more]
    refine ⟨rfl, sup_top (by simp) ?_, ?_⟩
    · intro j j0 j1 j2
      have e : ∀ i, 0 < i → i < (z :: r).length → at0 (z :: r) i = at0 (y :: r ++ [z]) i := by
        intro i i0 i1
        obtain ⟨i, rfl⟩ : ∃ k, i = k + 1 := ⟨i - 1, by omega⟩
        show r.getD i (0, 0) = (r ++ [z]).getD i (0, 0)
        rw [getD_app _ _ _ _ (by simpa using i1)]
      rw [e j j0 j1, e _ (by omega) (by omega)]
      exact hh j j0 (by simp at j1 ⊢; omega) (by omega)
    · have h1 := sup_perm (s := 0) (x := z) _ 0 (z :: r) (Nat.le_refl _) (by simp)
      refine (List.Perm.cons y ?_ : (y :: (r ++ [z])).Perm _)
      exact (List.perm_append_singleton z r).trans h1.symm
theorem root_min {pw : List PP} (hh : HF 0 pw) : ∀ j, j < pw.length → ple (at0 pw 0) (at0 pw j) := by
  intro j
  induction j using Nat.strongRecOn with
  | ind j ih =>
    intro hj
    by_cases h : j = 0
    · subst h; exact ple_refl _
    · exact ple_trans (ih ((j - 1) / 2) (by omega) (by omega)) (hh j (by omega) hj (Nat.zero_le _))
end
-- PlainI
section
/-- the order that the heap keeps -/
noncomputable def isHeap (ps : List PP) : Prop := ∀ j, 0 < j → j < ps.length → lexlt (ps.getD j (0, 0)) (ps.getD ((j - 1) / 2) (0, 0)) = false
/-- what the two lists bear while the loop runs -/
noncomputable def WI (bl : List Int) (x : Int) (pw : List PP) (es : List Int) : Prop :=
  isHeap pw ∧ Asc es ∧ (pw.map (·.2) ++ es).Perm (rangeKs 0 bl.length) ∧ (∀ p ∈ pw, p.1 = bl.getD p.2.toNat 0) ∧ ∀ k ∈ es, bl.getD k.toNat 0 < x
noncomputable def WX (bl : List Int) (x : Int) (pw : List PP) (es : List Int) : Prop := WI bl x pw es ∧ (pw = [] ∨ x ≤ (pw.getD 0 (0, 0)).1)
noncomputable def belowL (bl : List Int) (x : Int) : List Int := (rangeKs 0 bl.length).filter fun k => decide (bl.getD k.toNat 0 < x)
theorem marks_len (ns : List Int) : (marksF ns).length = 4 * ns.length := by
  induction ns with
  | nil => rfl
  | cons a r ih =>
    show (_ ++ marksF r).length = _
    rw [List.length_append, ih, List.length_cons]; simp; omega
theorem thrF_len (ds : List Int) : ∀ (as : List Int) (i : Int) (ts : List Int), (thrF ds as i ts).length = ts.length
  | [], _, _ => rfl
  | _ :: r, i, ts => by unfold thrF; rw [thrF_len ds r, rowT_len]
theorem threads_len (as ds : List Int) : (threadsF as ds).length = ds.length := by unfold threadsF; rw [thrF_len, rangeKs_length]
theorem wi_start (bl : List Int) (x : Int) {n : Nat} (hn : n = bl.length) : WI bl x (heapF (wps bl n) ((wps bl n).length / 2)) [] := by
  have hp := heapF_perm ((wps bl n).length / 2) (wps bl n) (by omega)
  have hh := heapF_heap ((wps bl n).length / 2) (wps bl n) (by omega) (fun j j0 j1 j2 => by omega)
  refine ⟨fun j j0 j1 => hh j j0 j1 (Nat.zero_le _), fun i j _ hj => by simp at hj, ?_, ?_, fun _ h => (nomatch h)⟩
  · rw [List.append_nil]
    refine (hp.map (·.2)).trans ?_
    have e : (wps bl n).map (·.2) = rangeKs 0 bl.length := by
      rw [wps, List.map_map, rangeKs, hn]
      exact List.map_congr_left fun k _ => by show (k : Int) = 0 + (k : Int); omega
    rw [e]
  · intro p h
    have h := hp.mem_iff.mp h
    unfold wps at h
    obtain ⟨k, _, rfl⟩ := List.mem_map.mp h
    rfl
theorem wi_up {bl : List Int} {x y : Int} {pw : List PP} {es : List Int} (h : WI bl x pw es) (hxy : x ≤ y) : WI bl y pw es :=
  ⟨h.1, h.2.1, h.2.2.1, h.2.2.2.1, fun k hk => Int.lt_of_lt_of_le (h.2.2.2.2 k hk) hxy⟩
theorem wi_len {bl : List Int} {x : Int} {pw : List PP} {es : List Int} (h : WI bl x pw es) : pw.length + es.length = bl.length := by
  have := h.2.2.1.length_eq
  simpa [rangeKs_length] using this
theorem hf_of {pw : List PP} (h : isHeap pw) : HF 0 pw := fun j j0 j1 _ => h j j0 j1
theorem asc_pair {es : List Int} : Asc es ↔ es.Pairwise (· ≤ ·) := by
  rw [List.pairwise_iff_getElem]
  constructor
  · intro h i j hi hj hij
    have := h i j (Nat.le_of_lt hij) hj
    rw [List.getD_eq_getElem?_getD, List.getD_eq_getElem?_getD, List.getElem?_eq_getElem hi, List.getElem?_eq_getElem hj] at this
    exact this
  · intro h i j hij hj
    rw [List.getD_eq_getElem?_getD, List.getD_eq_getElem?_getD, List.getElem?_eq_getElem hj, List.getElem?_eq_getElem (by omega)]
    by_cases e : i = j
    · subst e; exact Int.le_refl _
    · exact h i j (by omega) hj (by omega)
theorem cut_take {es : List Int} {x p : Int} (h : Cut es x p) : (∀ k ∈ es.take p.toNat, k < x) ∧ ∀ k ∈ es.drop p.toNat, x ≤ k := by
  constructor
  · intro k hk
    obtain ⟨j, hj, rfl⟩ := List.mem_iff_getElem.mp hk
    rw [List.length_take] at hj
    have := h.2.2.1 j (by have := h.1; omega)
    rw [List.getD_eq_getElem?_getD, List.getElem?_eq_getElem (by omega)] at this
    rw [List.getElem_take]; exact this
  · intro k hk
    obtain ⟨j, hj, rfl⟩ := List.mem_iff_getElem.mp hk
    rw [List.length_drop] at hj
    have := h.2.2.2 (p.toNat + j) (by have := h.1; omega) (by omega)
    rw [List.getD_eq_getElem?_getD, List.getElem?_eq_getElem (by omega)] at this
    rw [List.getElem_drop]; exact this
theorem asc_ins {es : List Int} {x p : Int} (h : Asc es) (hc : Cut es x p) : Asc (es.take p.toNat ++ x :: es.drop p.toNat) := by
  obtain ⟨h1, h2⟩ := cut_take hc
  rw [asc_pair] at h ⊢
  rw [List.pairwise_append, List.pairwise_cons]
  refine ⟨h.take, ⟨h2, h.drop⟩, fun a ha b hb => ?_⟩
  have q := h1 a ha
  rcases List.mem_cons.mp hb with rfl | hb
  · omega
  · have := h2 b hb; omega
theorem cut_count {es : List Int} {x p : Int} (h : Cut es x p) : (es.countP fun k => decide (k < x) : Int) = p := by
  obtain ⟨h1, h2⟩ := cut_take h
  have h3 := h.1
  have h4 := h.2.1
  conv => lhs; rw [← List.take_append_drop p.toNat es, List.countP_append]
  rw [List.countP_eq_length.mpr (fun k hk => decide_eq_true (h1 k hk)), List.countP_eq_zero.mpr (fun k hk => by have := h2 k hk; rw [decide_eq_true_eq]; omega), List.length_take]
  omega
theorem wi_pop {bl : List Int} {x p : Int} {pw : List PP} {es : List Int} (h : WI bl x pw es) (h0 : 0 < pw.length) (hlt : (pw.getD 0 (0, 0)).1 < x) (hc : Cut es (popF pw).1.2 p) :
    WI bl x (popF pw).2 (es.take p.toNat ++ (popF pw).1.2 :: es.drop p.toNat) := by
  obtain ⟨h1, h2, h3⟩ := popF_spec h0 (hf_of h.1)
  have hm : (popF pw).1 ∈ pw := h3.mem_iff.mpr (.head _)
  refine ⟨fun j j0 j1 => h2 j j0 j1 (Nat.zero_le _), asc_ins h.2.1 hc, ?_, fun q hq => h.2.2.2.1 q (h3.mem_iff.mpr (.tail _ hq)), ?_⟩
  · refine List.Perm.trans ?_ h.2.2.1
    have e1 : (es.take p.toNat ++ (popF pw).1.2 :: es.drop p.toNat).Perm ((popF pw).1.2 :: es) := by
      refine List.perm_middle.trans ?_
      rw [List.take_append_drop]
    refine (List.Perm.append_left _ e1).trans (List.perm_middle.trans ?_)
    have e2 : (pw.map (·.2)).Perm ((popF pw).1.2 :: (popF pw).2.map (·.2)) := h3.map (·.2)
    exact (List.Perm.append_right es e2).symm
  · intro k hk
    rcases List.mem_append.mp hk with hk | hk
    · exact h.2.2.2.2 k (List.mem_of_mem_take hk)
    · rcases List.mem_cons.mp hk with rfl | hk
      · rw [← h.2.2.2.1 _ hm, h1]; exact hlt
      · exact h.2.2.2.2 k (List.mem_of_mem_drop hk)
theorem pop_len (pw : List PP) (h0 : 0 < pw.length) : (popF pw).2.length + 1 = pw.length := by
  obtain ⟨r, z, rfl⟩ := snoc_of h0
  cases r with
  | nil => rw [popF_one]; rfl
  | cons y r => rw [popF_more]; dsimp only; rw [sup_len _ _ _ _ _ (Nat.le_refl _)]; simp
theorem wx_end {bl : List Int} {x : Int} {pw : List PP} {es : List Int} (h : WX bl x pw es) : es = belowL bl x := by
  obtain ⟨⟨h1, h2, h3, h4, h5⟩, h6⟩ := h
  have hge : ∀ p ∈ pw, x ≤ p.1 := by
    intro p hp
    rcases h6 with rfl | h6
    · cases hp
    · obtain ⟨j, hj, rfl⟩ := List.mem_iff_getElem.mp hp
      have := root_min (hf_of h1) j hj
      rw [ple_iff, at0, at0, List.getD_eq_getElem?_getD (i := j), List.getElem?_eq_getElem hj] at this
      have e : (some pw[j]).getD (0, 0) = pw[j] := rfl
      rw [e] at this
      omega
  have e1 : (pw.map (·.2)).filter (fun k => decide (bl.getD k.toNat 0 < x)) = [] := by
    rw [List.filter_eq_nil_iff]
    intro k hk
    obtain ⟨p, hp, rfl⟩ := List.mem_map.mp hk
    have q := hge p hp
    rw [h4 p hp] at q
    rw [decide_eq_true_eq]; omega
  have e2 : es.filter (fun k => decide (bl.getD k.toNat 0 < x)) = es := List.filter_eq_self.mpr fun k hk => decide_eq_true (h5 k hk)
  have h7 := h3.filter (fun k => decide (bl.getD k.toNat 0 < x))
  rw [List.filter_append, e1, e2, List.nil_append] at h7
  refine List.Perm.eq_of_pairwise (le := (· ≤ ·)) (fun a b _ _ h h' => Int.le_antisymm h h') (asc_pair.mp h2) ?_ h7
  refine List.Pairwise.filter _ ?_
  unfold rangeKs
  refine List.Pairwise.map _ (fun a b h => ?_) (List.pairwise_le_range (n := bl.length))
  have h : a ≤ b := h
  omega
theorem wx_last {bl : List Int} {x : Int} {pw : List PP} {es : List Int} (h : WX bl x pw es) (hb : ∀ v ∈ bl, v < x) : pw = [] ∧ es = rangeKs 0 bl.length := by
  have hlt : ∀ k ∈ rangeKs 0 bl.length, bl.getD k.toNat 0 < x := by
    intro k hk
    unfold rangeKs at hk
    obtain ⟨j, hj, rfl⟩ := List.mem_map.mp hk
    have hj := List.mem_range.mp hj
    have e : (0 + (j : Int)).toNat = j := by omega
    rw [e, List.getD_eq_getElem?_getD, List.getElem?_eq_getElem hj]
    exact hb _ (List.getElem_mem hj)
  constructor
  · rcases h.2 with h2 | h2
    · exact h2
    · cases pw with
      | nil => rfl
      | cons p r =>
        have hm : p.2 ∈ rangeKs 0 bl.length := h.1.2.2.1.mem_iff.mp (.head _)
        have q1 := hlt _ hm
        rw [← h.1.2.2.2.1 p (.head _)] at q1
        have h2 : x ≤ p.1 := h2
        omega
  · rw [wx_end h]
    exact List.filter_eq_self.mpr fun k hk => decide_eq_true (hlt k hk)
theorem rowT_lt {N : Int} (mk : Int) : ∀ (ds ts : List Int) (g : Int), (∀ v ∈ ts, v < N) → g < N → ∀ v ∈ rowT mk ds ts g, v < N
  | [], ts, _, h, _ => by rw [rowT_nil]; exact h
  | _ :: _, [], _, h, _ => by unfold rowT; exact h
  | d :: ds, t :: ts, g, h, hg => by
    intro v hv
    rw [rowT] at hv
    rcases List.mem_cons.mp hv with rfl | hv
    · split
      · exact hg
      · exact h _ (.head _)
    · refine rowT_lt mk ds ts _ (fun v hv => h v (.tail _ hv)) ?_ v hv
      split
      · exact h _ (.head _)
      · exact hg
theorem thrF_lt {N : Int} (hN : 0 ≤ N) (ds : List Int) : ∀ (as : List Int) (k : Int) (ts : List Int), 0 ≤ k → (∀ v ∈ ts, v < N) → ∀ v ∈ thrF ds as k ts, v < N
  | [], _, _, _, h => by unfold thrF; exact h
  | a :: as, k, ts, hk, h => by
    rw [thrF]
    exact thrF_lt hN ds as (k + 1) _ (by omega) (rowT_lt a ds ts _ h (by omega))
theorem bl_lt {as os : List Int} : ∀ v ∈ threadsF (marksF as) (marksF os), v < 4 * (os.length : Int) := by
  unfold threadsF
  refine thrF_lt (by omega) _ _ _ _ (by omega) fun v hv => ?_
  unfold rangeKs at hv
  obtain ⟨j, hj, rfl⟩ := List.mem_map.mp hv
  have hj := List.mem_range.mp hj
  rw [marks_len] at hj
  omega
theorem cn_bits (T : Int) : ∀ l : List Int, cn (l.map (th T)) = l.countP fun v => decide (v < T)
  | [] => rfl
  | v :: l => by
    rw [List.map_cons, List.countP_cons, ← cn_bits T l]
    unfold th
    by_cases h : v < T
    · rw [decide_eq_true h, if_pos rfl, cn]
    · rw [decide_eq_false h, if_neg Bool.false_ne_true, cn]; rfl
theorem range_count (bl : List Int) (T : Int) (N : Nat) : ∀ n, n ≤ bl.length → (List.range n).countP (fun k => decide (k < N) && decide (bl.getD k 0 < T)) = (bl.take (min n N)).countP fun v => decide (v < T)
  | 0, _ => by simp
  | n + 1, h => by
    rw [List.range_succ, List.countP_append, range_count bl T N n (by omega), List.countP_singleton]
    by_cases hn : n < N
    · have e1 : min (n + 1) N = n + 1 := by omega
      have e2 : min n N = n := by omega
      rw [e1, e2, List.take_add_one, List.getElem?_eq_getElem (by omega), List.countP_append, Option.toList, List.countP_singleton, decide_eq_true hn, Bool.true_and, List.getD_eq_getElem?_getD, List.getElem?_eq_getElem (by omega)]
      rfl
    · have e1 : min (n + 1) N = N := by omega
      have e2 : min n N = N := by omega
      rw [e1, e2, decide_eq_false hn, Bool.false_and, if_neg Bool.false_ne_true]; rfl
theorem below_count (bl : List Int) (T : Int) (N : Nat) (hN : N ≤ bl.length) : ((belowL bl T).countP fun k => decide (k < (N : Int))) = (bl.take N).countP fun v => decide (v < T) := by
  unfold belowL
  have e0 := range_count bl T N bl.length (Nat.le_refl _)
  rw [Nat.min_eq_right hN] at e0
  rw [← e0, List.countP_filter]
  unfold rangeKs
  rw [List.countP_map]
  apply List.countP_congr
  intro k _
  have e : (0 + (k : Int)).toNat = k := by omega
  simp only [Function.comp, e, Bool.and_eq_true, decide_eq_true_eq]
  constructor
  · rintro ⟨a, b⟩; exact ⟨by omega, b⟩
  · rintro ⟨a, b⟩; exact ⟨by omega, b⟩
theorem law_due {as os : List Int} (ha : ∀ n ∈ as, 0 ≤ n ∧ n < 4) (ho : ∀ n ∈ os, 0 ≤ n ∧ n < 4) {i j : Nat} (hij : i ≤ j) (hj : j ≤ os.length) {p q : Int}
    (hp : Cut (belowL (threadsF (marksF as) (marksF os)) (4 * (i : Int))) (4 * (j : Int)) p) (hq : Cut (belowL (threadsF (marksF as) (marksF os)) (4 * (i : Int))) (4 * (i : Int)) q) :
    levF (as.map gl) (((os.map gl).drop i).take (j - i)) (2 * ((as.length : Int) + j - i) - (p - q)) = 2 * ((as.length : Int) + j - i) - (p - q) := by
  have hl : (threadsF (marksF as) (marksF os)).length = 4 * os.length := by rw [threads_len, marks_len]
  have hs := sea ha ho (i := i) (n := j - i) (by omega)
  generalize threadsF (marksF as) (marksF os) = bl at *
  have h1 := cut_count hp
  have h2 := cut_count hq
  have e1 : (4 * (j : Int)) = ((4 * j : Nat) : Int) := by omega
  have e2 : (4 * (i : Int)) = ((4 * i : Nat) : Int) := by omega
  have c1 := below_count bl (4 * (i : Int)) (4 * j) (by omega)
  have c2 := below_count bl (4 * (i : Int)) (4 * i) (by omega)
  rw [← e1] at c1
  rw [← e2] at c2
  rw [c1] at h1
  rw [c2] at h2
  have e3 : bl.take (4 * j) = bl.take (4 * i) ++ (bl.drop (4 * i)).take (4 * (j - i)) := by
    have : 4 * j = 4 * i + 4 * (j - i) := by omega
    rw [this, List.take_add]
  rw [e3, List.countP_append] at h1
  rw [← List.map_drop, ← List.map_take, cn_bits] at hs
  have e4 : 2 * ((as.length : Int) + j - i) - (p - q) = dis (as.map gl) (((os.map gl).drop i).take (j - i)) := by omega
  rw [e4]
  exact lev_dis _ _
end
-- Law
section
theorem gl_let {n : Int} (h : 0 ≤ n ∧ n < 4) : Let (gl n) := by
  have e : n = 0 ∨ n = 1 ∨ n = 2 ∨ n = 3 := by omega
  rcases e with rfl | rfl | rfl | rfl <;> simp [Let, gl]
theorem let_map {ns : List Int} (h : ∀ n ∈ ns, 0 ≤ n ∧ n < 4) : ∀ x ∈ ns.map gl, Let x := fun x hx => by
  obtain ⟨n, hn, rfl⟩ := List.mem_map.mp hx
  exact gl_let (h n hn)
theorem hll_lem {w : Int} {n : Nat} (h : 2 ≤ w ∧ w ≤ 3) (hn : n = 7) : ((min w.toNat n : Nat) : Int) = w := by
  have e : w = 2 ∨ w = 3 := by omega
  subst hn
  rcases e with rfl | rfl <;> decide
theorem hlo_lem {b : Int} {n : Nat} (h : 2 ≤ b ∧ b ≤ 4) (hn : n = 7) : ((min (min (3 + b).toNat n - 3) (n - 3) : Nat) : Int) = b := by
  have e : b = 2 ∨ b = 3 ∨ b = 4 := by omega
  subst hn
  rcases e with rfl | rfl | rfl <;> decide
theorem len_a {a b n : Nat} (h : a + b = n) (hn : n ≤ 16) : a < 2 ^ 20 ∧ b < 2 ^ 20 := by omega
theorem news_cons {h₀ h : Heap} {L : Addr} {x : Addr × Obj} {all r : List (Addr × Obj)} (hx : x ∈ all) (N : News h₀ L h all) (R : News h₀ L h r) : News h₀ L h (x :: r) := fun p hp => by
  rcases List.mem_cons.mp hp with rfl | hp
  · exact N _ hx
  · exact R _ hp
theorem news_nil {h₀ h : Heap} {L : Addr} : News h₀ L h [] := fun _ h => nomatch h
theorem all_lt {a : Nat} : ∀ {l : List (Addr × Obj)}, AllLt a l → ∀ p ∈ l, p.1 < a
  | [], _, _, h => nomatch h
  | _ :: _, x, p, h => by
    rcases List.mem_cons.mp h with rfl | h
    · exact x.1
    · exact all_lt x.2 p h
abbrev LawS := List Value × List PP × Nat × List Value × List Int × Nat
noncomputable def LawP (tl : List (Addr × Obj)) (bl : List Int) (i : Nat) (c : LawS) : Prop := HV tl c.1 c.2.1 ∧ IntsAre c.2.2.2.1 c.2.2.2.2.1 ∧ WI bl (4 * (i : Int)) c.2.1 c.2.2.2.2.1 ∧ (0 < i → WX bl (4 * ((i : Int) - 1)) c.2.1 c.2.2.2.2.1)
noncomputable def DrJ (i : Nat) (ys : List Value) : Prop := ∃ ns, IntsAre ys ns ∧ ns.length = i ∧ ∀ n ∈ ns, (0 : Int) ≤ n ∧ n < 4
theorem int_of_get {vs : List Value} {ns : List Int} {i : Nat} {v : Value} (h : IntsAre vs ns) (hv : vs[i]? = some v) : ∃ n t, v = .int n t := by
  have hi : i < ns.length := by
    rw [← h.length]
    rcases Nat.lt_or_ge i vs.length with h' | h'
    · exact h'
    · rw [List.getElem?_eq_none h'] at hv; cases hv
  obtain ⟨t, e⟩ := h.get i (ns[i]) (List.getElem?_eq_getElem hi)
  rw [hv] at e
  exact ⟨_, t, Option.some.inj e⟩
set_option maxRecDepth 100000 in
set_option maxHeartbeats 8000000 in
theorem lawX : PySem.Challenge.rw_pg0183_01.Holds := hd (by
  k_with_none
  k_with "mine exec Assign cons ListComp" => refine stop_out ?_
  k_with "mine call type:enumerate" => refine stop_out ?_
  k_with "mine eval ListComp" => refine stop_out ?_
  k_with "mine CompSrc" => refine stop_out ?_
  k_with "mine KCtEl" => refine stop_out ?_
  k_with "mine call builtin:str.join" => refine stop_out ?_
  k_with "mine subscriptTail Constant Name str int" => (k_here; refine my_menu (by omega) (by omega) ?_; intro _ _)
  k_with "mine exec For" => refine stop_out ?_
  k_with "mine exec For Name Call cons nil" => refine stop_out ?_
  k_with "mine exec While" => refine stop_out ?_
  k_with "mine exec While BoolOp cons nil" => refine stop_out ?_
  k_with "mine pyIter ref" => refine stop_out ?_
  k_with "mine call ref" => refine stop_out ?_
  k_with "mine MyPost" => (dsimp only [MyPost])
  k_with "mine FPost" => (dsimp only [FPost])
  k_with "mine MyPostX" => (dsimp only [MyPostX])
  k_with "mine call type:list" => refine stop_out ?_
  k_with "mine compareOp NotEq ref ref" => refine stop_out ?_
  k_with "mine compareOp Eq ref ref" => refine stop_out ?_
  k_with "mine subscriptTail Name Constant ref int" => refine stop_out ?_
  k_with "mine subscriptTail Subscript" => refine stop_out ?_
  k_with "mine subscriptTail Call" => refine stop_out ?_
  k_with "mine subscriptTail Name Slice str ref" => refine stop_out ?_
  k_with "mine CompEnd" => refine stop_out ?_
  w_top off
  k_go0
  (all_goals try k_fold)
  k_steps
  rename List Int => scr
  rename Shared => s1
  unfold Stop
  k_dflt (refine Assign_enum (by k_asm) (by rfl) (by with_unfolding_all rfl) (by with_unfolding_all rfl) (by decide) (by rfl) (by decide) (by rfl) (by rfl) (by decide) (by rfl) (by rfl) ?_)
  k_steps
  unfold Stop
  (rename Fr _ _ _ _ => lF2); (rename News _ _ _ _ => lN2)
  with_unfolding_all refine' enum_src DrJ rfl lF2 lN2 (.head _) ?hz ⟨[], .nil, rfl, fun _ h => nomatch h⟩ ?kt ?kd
  case hz => rw [PySem.sizeLine_eq]; exact Nat.le_of_ble_eq_true rfl
  case kt =>
    intro e it g i ys t v C D oe oi oC m₂ h tk E' hi hj hv hoC hm1 hm2 F3 N3
    obtain ⟨n, tn, rfl⟩ : ∃ n t, v = .int n t := int_of_get (ns := [0, 3, 1, 1, 2, 0, 3]) (.cons _ _ (.cons _ _ (.cons _ _ (.cons _ _ (.cons _ _ (.cons _ _ (.cons _ _ .nil))))))) hv
    k_steps
    (rename Fr _ _ _ _ => lF4); (rename News _ _ _ _ => lN4); (rename IntsAre _ _ => hSc)
    have hpk := IntsAre.pick hSc (some (i : Int)) none (some 7)
    refine sumK rfl lF4 lN4 ⟨_, (lN4 _ (.head _)).1, rfl, _, by rw [Array.toArray_toList]⟩ hpk ?_
    intro h5 tk5 t5 F5 N5
    k_steps
    obtain ⟨ns, hns, hnl, hnb⟩ := hj
    refine ⟨_, _, rfl, F5, kst_newsOf N5 (fun p hp => .tail _ hp), ns ++ [_], ints_app hns (.cons _ _ .nil), by rw [List.length_append, hnl]; rfl, ?_⟩
    intro z hz
    rcases List.mem_append.mp hz with hz | hz
    · exact hnb z hz
    · rw [List.mem_singleton.mp hz]; exact ⟨Int.fmod_nonneg_of_pos _ (by decide), Int.fmod_lt_of_pos _ (by decide)⟩
  case kd =>
    intro D h tk ys hJ F3 N3 hD
    dsimp only
    obtain ⟨ns, hns, hnl, hnb⟩ := hJ
    replace hnl : ns.length = 7 := hnl
    have hq1 : 0 ≤ ((scr.length : Int)).fdiv 2 := Int.fdiv_nonneg (by omega) (by decide)
    have hq2 : 0 ≤ ((scr.length : Int).fdiv 8).fmod 2 := Int.fmod_nonneg_of_pos _ (by decide)
    have hq3 : ((scr.length : Int).fdiv 8).fmod 2 < 2 := Int.fmod_lt_of_pos _ (by decide)
    k_steps
    all_goals first | (exfalso; split at * <;> omega) | skip
    unfold Stop
    rename_i dl wl h1 hLt c1 L1 q1 h2 dO wo h3 hOt c3 L3 q3 h4 F4 N4
    have N5 := news_cons (.tail _ (.head _)) N4 (news_cons (.head _) N4 (news_cons (.tail _ (.tail _ (.tail _ (.tail _ (.head _))))) N4 (news_cons (.tail _ (.tail _ (.tail _ (.tail _ (.tail _ (.head _)))))) N4 news_nil)))
    clear N4 hns hD
    generalize hwide : 2 + ((scr.length : Int).fdiv 8).fmod 2 = wide at *
    generalize hbroad : (2 + if (scr.length : Int).fdiv 2 < 2 then (scr.length : Int).fdiv 2 else 2) = broad at *
    have hw1 : 2 ≤ wide ∧ wide ≤ 3 := by omega
    have hb1 : 2 ≤ broad ∧ broad ≤ 4 := by split at hbroad <;> omega
    have hll : ((ns.take wide.toNat).length : Int) = wide := by rw [List.length_take]; exact hll_lem hw1 hnl
    have hlo : (((ns.drop 3).take (min (3 + broad).toNat ns.length - 3)).length : Int) = broad := by rw [List.length_take, List.length_drop]; exact hlo_lem hb1 hnl
    have hlb : ∀ n ∈ ns.take wide.toNat, 0 ≤ n ∧ n < 4 := fun n h => hnb n (List.mem_of_mem_take h)
    have hob : ∀ n ∈ (ns.drop 3).take (min (3 + broad).toNat ns.length - 3), 0 ≤ n ∧ n < 4 := fun n h => hnb n (List.mem_of_mem_drop (List.mem_of_mem_take h))
    generalize ns.take wide.toNat = lets at *
    generalize (ns.drop 3).take (min (3 + broad).toNat ns.length - 3) = oths at *
    clear c1 L1 c3 L3 hwide hbroad hq1 hq2 hq3 hnb hnl
    k_dflt (refine LCg.ListComp_U (F₀ := by k_asm) (by with_unfolding_all rfl) (by decide) (by rfl) (by decide) (by rfl) ?_)
    k_steps
    unfold Stop
    (rename Fr _ _ _ _ => lF6); (rename News _ _ _ _ => lN6)
    refine LCg.CompSrc.ledger rfl lF6 lN6 (by k_mem) (by rw [PySem.sizeLine_eq, List.size_toArray, hLt.length]; omega) ?_
    intro g'
    refine kct_list (fun k => S [gl k]) hLt (fun k' t' I' oI' C' oC' D' m' ys' h' tk' E' hk' hC' hx' F' N' off' ne' _ => ?_) ?_
    · have hkb := hlb k' hk'
      k_steps
      unfold Stop
      refine LCg.CompEnd.intro F' N' _ (fun p hp => hp) off' (by lcg_src) ?_
      exact kct_el (item_gl hkb.1 hkb.2) rfl rfl
    unfold KPfDone
    intro yw hyw _ DW hW tkW FW NW offW
    simp only [LCg.Off1, and_true] at offW
    dsimp only
    k_steps
    unfold Stop
    refine my_join (NW.isList (by k_mem)) hyw (by omega) ?_
    intro tW kW
    clear hyw
    dsimp only
    k_steps
    unfold Stop
    k_dflt (refine LCg.ListComp_U (F₀ := by k_asm) (by with_unfolding_all rfl) (by decide) (by rfl) (by decide) (by rfl) ?_)
    k_steps
    unfold Stop
    (rename Fr _ _ _ _ => lF6); (rename News _ _ _ _ => lN6)
    refine LCg.CompSrc.ledger rfl lF6 lN6 (by k_mem) (by rw [PySem.sizeLine_eq, List.size_toArray, hOt.length]; omega) ?_
    intro g'
    refine kct_list (fun k => S [gl k]) hOt (fun k' t' I' oI' C' oC' D' m' ys' h' tk' E' hk' hC' hx' F' N' off' ne' _ => ?_) ?_
    · have hkb := hob k' hk'
      k_steps
      unfold Stop
      refine LCg.CompEnd.intro F' N' _ (fun p hp => hp) off' (by lcg_src) ?_
      exact kct_el (item_gl hkb.1 hkb.2) rfl rfl
    unfold KPfDone
    intro yw hyw _ DW hW tkW FW NW offW
    simp only [LCg.Off1, and_true] at offW
    dsimp only
    k_steps
    unfold Stop
    refine my_join (NW.isList (by k_mem)) hyw (by omega) ?_
    intro tW kW
    clear hyw
    dsimp only
    k_steps
    unfold Stop
    (rename News _ _ _ _ => N6)
    have N7 := news_cons (.tail _ (.tail _ (.head _))) N6 (news_cons (.tail _ (.tail _ (.tail _ (.head _)))) N6 (news_cons (.tail _ (.tail _ (.tail _ (.tail _ (.head _))))) N6 (news_cons (.tail _ (.tail _ (.tail _ (.tail _ (.tail _ (.head _)))))) N6 news_nil)))
    clear N6
    with_unfolding_all refine tells_use (marks_tells hLt (by omega)) (by k_asm) (by k_asm) (by k_asm) N7 (by k_asm) (by rfl) (by ktr_room) (by ktr_units) ?_
    rintro v h tk news ⟨dm, mv, nm, rfl, hM, hoM, rfl⟩ F N
    clear N7
    dsimp only
    k_steps
    unfold Stop
    (rename News _ _ _ _ => N8)
    have N9 := news_cons (.tail _ (.tail _ (.head _))) N8 (news_cons (.head _) N8 (news_cons (.tail _ (.tail _ (.tail _ (.head _)))) N8 (news_cons (.tail _ (.tail _ (.tail _ (.tail _ (.head _))))) N8 news_nil)))
    clear N8
    with_unfolding_all refine tells_use (marks_tells hOt (by omega)) (by k_asm) (by k_asm) (by k_asm) N9 (by k_asm) (by rfl) (by ktr_room) (by ktr_units) ?_
    rintro v h tk news ⟨dm2, mv2, nm2, rfl, hM2, hoM2, rfl⟩ F N
    clear N9
    dsimp only
    k_steps
    unfold Stop
    (rename News _ _ _ _ => N8)
    have N9 := news_cons (.tail _ (.tail _ (.head _))) N8 (news_cons (.head _) N8 (news_cons (.tail _ (.tail _ (.tail _ (.head _)))) N8 (news_cons (.tail _ (.tail _ (.tail _ (.tail _ (.head _))))) N8 news_nil)))
    clear N8
    have hml : (marksF lets).length < 2 ^ 10 := by rw [marks_len]; omega
    have hml2 : (marksF oths).length < 2 ^ 10 := by rw [marks_len]; omega
    with_unfolding_all refine tells_use (threads_tells hM hM2 hml hml2) (by k_asm) (by k_asm) (by k_asm) N9 (by k_asm) (by rfl) (by ktr_room) (by ktr_units) ?_
    rintro v h tk news ⟨dt, tv, nt, rfl, hT, hoT, rfl⟩ F N
    have N10 := news_cons (.head _) N (news_cons (.tail _ (.tail _ (.tail _ (.head _)))) N (news_cons (.tail _ (.tail _ (.tail _ (.tail _ (.head _))))) N news_nil))
    clear N9 N
    dsimp only
    k_steps
    unfold Stop
    (rename News _ _ _ _ => N11)
    dsimp only [List.cons_append, List.nil_append] at N11
    have hbl : (threadsF (marksF lets) (marksF oths)).length = (4 * broad).toNat := by rw [threads_len, marks_len]; omega
    generalize hblE : threadsF (marksF lets) (marksF oths) = bl at *
    clear hoM hoM2 hoT
    k_dflt (refine LCg.Assign_ListComp_U (F₀ := by k_asm) (by rfl) (by with_unfolding_all rfl) (by with_unfolding_all rfl) (by decide) (by rfl) (by decide) (by rfl) (by rfl) (by rfl) ?_)
    k_steps
    unfold Stop
    (rename Fr _ _ _ _ => lF12); (rename News _ _ _ _ => lN12)
    refine LCg.CompSrc.range (n := (4 * broad).toNat) rfl lF12 lN12 (by assumption) (small_one (by omega) (by omega) (by omega) (by omega)) (by rw [rangeSize_nat]; simp) (by rw [PySem.sizeLine_eq]; omega) ?_
    intro g'
    refine wait_rest bl (fun _ _ h => h) ?kt ?kf
    case kt =>
      intro i t tl ys I oI C oC D2 m₂ h tk E' hi hC hx F N off ne
      dsimp only [List.cons_append, List.nil_append] at N
      have hi16 : i < 16 := by clear off ne; omega
      k_steps
      unfold Stop
      simp only [LCg.Off3, List.cons_append, List.nil_append] at off
      rename_i tT T hT FT NT lT
      refine LCg.CompEnd.intro FT NT ([(dt, _), (_, _), (_, _)] ++ (T, _) :: tl) ?_ ?_ trivial ⟨T, tT, t, 0, rfl, rfl⟩
      · intro p hp
        simp only [List.cons_append, List.nil_append, List.mem_cons] at hp ⊢
        rcases hp with hp | hp | hp | hp | hp | hp | hp | hp
        · exact .inr (.inl hp)
        · exact .inr (.inr (.inl hp))
        · exact .inr (.inr (.inr (.inl hp)))
        · exact .inr (.inr (.inr (.inr (.inl hp))))
        · exact .inr (.inr (.inr (.inr (.inr (.inl hp)))))
        · exact .inr (.inr (.inr (.inr (.inr (.inr (.inl hp))))))
        · exact .inl hp
        · exact .inr (.inr (.inr (.inr (.inr (.inr (.inr hp))))))
      · simp only [List.cons_append, List.nil_append, LCg.Off3]
        exact ⟨off.1, off.2.1, off.2.2.1, ⟨Nat.ne_of_gt lT.1, Nat.ne_of_gt lT.2.1, Nat.ne_of_gt lT.2.2.1⟩, off.2.2.2⟩
    case kf =>
      intro tl ysw hV DW hW tkW FW NW offW
      have hoffW := off1_mem offW
      dsimp only [List.cons_append, List.nil_append] at NW hoffW
      clear offW
      dsimp only
      k_steps
      unfold Stop
      with_unfolding_all refine tells_use (heapify_tells hV (by rw [wps_len]; omega) (fun z hz => .tail _ (.tail _ (.tail _ hz))) hoffW) (by k_asm) (by k_asm) (by k_asm) NW (by k_asm) (by rfl) (by ktr_room) (by ktr_units) ?_
      rintro v h tk news ⟨rfl, vw, hVw, rfl⟩ F N
      have N20 := news_cons (.head _) N (news_cons (.tail _ (.tail _ (.head _))) N (news_cons (.tail _ (.tail _ (.tail _ (.head _)))) N (fun p hp => N p (.tail _ (.tail _ (.tail _ (.tail _ hp)))))))
      clear NW N
      dsimp only
      k_steps
      unfold Stop
      rename_i le h21 l21 h22 F22 N22
      have hWl : DW ≠ le := Nat.ne_of_lt l21.1
      have hlt1 := l21.2.1
      have hlt2 := l21.2.2.1
      have htl1 : ∀ p ∈ tl, p.1 ≠ le := fun p hp => Nat.ne_of_lt (all_lt l21.2.2.2 p hp)
      have htl2 : ∀ p ∈ tl, p.1 ≠ DW := fun p hp => hoffW p (.tail _ (.tail _ (.tail _ hp)))
      clear hoffW
      have hwi0 := wi_start bl 0 hbl.symm
      generalize hpw0 : heapF (wps bl (4 * broad).toNat) ((wps bl (4 * broad).toNat).length / 2) = pw0 at *
      with_unfolding_all refine' For_invVF F22 ?k1 ?k2 ?_
      case k1 => exact rfl
      case k2 => exact rfl
      k_steps
      unfold Stop
      (rename Fr _ _ _ _ => lF23); (rename News _ _ _ _ => lN23); (rename IsRange _ _ _ _ _ _ _ _ => hR)
      have lN24 := news_cons (.head _) lN23 (news_cons (.tail _ (.head _)) lN23 (fun p hp => lN23 p (.tail _ (.tail _ (.tail _ (.tail _ hp))))))
      have hblN : bl.length ≤ 16 := by rw [hbl]; clear hWl hlt1 hlt2; omega
      have eN : (((broad + 1).toNat : Nat) : Int) = broad + 1 := by omega
      with_unfolding_all refine' for_range (σ := LawS) (n := (broad + 1).toNat) (fun c => (le, listOf c.2.2.2.1.toArray c.2.2.2.2.2) :: (DW, listOf c.1.toArray c.2.2.1) :: tl) (fun c => []) (fun _ => True) [Str.ofString "j", Str.ofString "shared", Str.ofString "due"] (fun i c => LawP tl bl i c) (vw, pw0, ysw.length, [], [], 0) rfl hR ?ks ?kn lF23 lN24 trivial (List.forall_mem_nil _) ⟨hVw, .nil, by simpa using hwi0, fun h => absurd h (Nat.lt_irrefl _)⟩ ?kt2 ?kd2
      case ks => exact small_one (by omega) (by omega) (by omega) (by omega)
      case kn => rw [eN]; unfold Builtin.Range.rangeSize; simp; omega
      case kt2 =>
        rintro i ⟨vw1, pw1, nw1, ve1, es1, ne1⟩ t1 u1 h31 tk31 own hi ho hadr _ ⟨hV1, hE1, hW1, hX1⟩ F31 N31
        dsimp only [kstB, envOfC, List.cons_append, List.map_cons] at hV1 hE1 hW1 hX1 F31 N31 ho
        rw [Int.zero_add] at F31
        have hown1 : ∀ p ∈ own, p.1 ≠ le := fun p hp => ho p hp _ (.head _)
        have hown2 : ∀ p ∈ own, p.1 ≠ DW := fun p hp => ho p hp _ (.tail _ (.head _))
        k_steps
        unfold Stop
        with_unfolding_all refine' my_whileX (σ := LawS) (fun c => (le, listOf c.2.2.2.1.toArray c.2.2.2.2.2) :: (DW, listOf c.1.toArray c.2.2.1) :: (tl ++ own)) (fun c => []) (fun _ => True) [] (fun c => HV tl c.1 c.2.1 ∧ IntsAre c.2.2.2.1 c.2.2.2.2.1 ∧ WI bl (4 * (i : Int)) c.2.1 c.2.2.2.2.1) (fun c => c.2.1.length) (fun c => HV tl c.1 c.2.1 ∧ IntsAre c.2.2.2.1 c.2.2.2.2.1 ∧ WX bl (4 * (i : Int)) c.2.1 c.2.2.2.2.1) (vw1, pw1, nw1, ve1, es1, ne1) F31 N31 trivial (List.forall_mem_nil _) ⟨hV1, hE1, hW1⟩ ?kw ?kd3
        case kw =>
          intro ⟨vw2, pw2, nw2, ve2, es2, ne2⟩ u2 h32 tk32 _ ⟨hV2, hE2, hW2⟩ F32 N32
          dsimp only [kstB, envOfC, List.cons_append] at hV2 hE2 hW2 F32 N32
          have hln2 := wi_len hW2
          k_steps
          unfold Stop
          have hsub2 : ∀ z ∈ tl, z ∈ tl ++ own := fun z hz => List.mem_append.mpr (.inl hz)
          (rename News _ _ _ _ => N33)
          refine ne_pairs_nil N33 (.tail _ (.tail _ (.head _))) hV2 (fun z hz => .tail _ (.tail _ (.tail _ (hsub2 z hz)))) (.head _) (by ke_room) ?_
          by_cases hp : pw2 = []
          · rw [decide_eq_true hp]
            dsimp only [Bool.not_true]
            k_steps
            refine my_out ⟨vw2, pw2, nw2, ve2, es2, ne2⟩ (by assumption) N33 (fun p hp => .tail _ hp) (List.forall_mem_nil _) (by (intros; (try dsimp only); (repeat refine Eq.trans (if_neg (by first | assumption | exact nct (by assumption) | exact nct_sub (by assumption) (by decide +kernel) | exact ne_of_ct (by assumption) (by first | with_reducible exact List.mem_cons_self | with_reducible exact (List.mem_cons_of_mem _ List.mem_cons_self) | with_reducible exact (List.mem_cons_of_mem _ (List.mem_cons_of_mem _ List.mem_cons_self)) | with_reducible exact (List.mem_cons_of_mem _ (List.mem_cons_of_mem _ (List.mem_cons_of_mem _ List.mem_cons_self))) | with_reducible exact (List.mem_cons_of_mem _ (List.mem_cons_of_mem _ (List.mem_cons_of_mem _ (List.mem_cons_of_mem _ List.mem_cons_self))))) | exact ne_of_ps (by assumption) (by first | with_reducible exact List.mem_cons_self | with_reducible exact (List.mem_cons_of_mem _ List.mem_cons_self) | with_reducible exact (List.mem_cons_of_mem _ (List.mem_cons_of_mem _ List.mem_cons_self)) | with_reducible exact (List.mem_cons_of_mem _ (List.mem_cons_of_mem _ (List.mem_cons_of_mem _ List.mem_cons_self))) | with_reducible exact (List.mem_cons_of_mem _ (List.mem_cons_of_mem _ (List.mem_cons_of_mem _ (List.mem_cons_of_mem _ List.mem_cons_self))))))) ?_); (repeat refine Eq.trans ?_ (Eq.symm (if_neg (by first | assumption | exact nct (by assumption) | exact nct_sub (by assumption) (by decide +kernel) | exact ne_of_ct (by assumption) (by first | with_reducible exact List.mem_cons_self | with_reducible exact (List.mem_cons_of_mem _ List.mem_cons_self) | with_reducible exact (List.mem_cons_of_mem _ (List.mem_cons_of_mem _ List.mem_cons_self)) | with_reducible exact (List.mem_cons_of_mem _ (List.mem_cons_of_mem _ (List.mem_cons_of_mem _ List.mem_cons_self))) | with_reducible exact (List.mem_cons_of_mem _ (List.mem_cons_of_mem _ (List.mem_cons_of_mem _ (List.mem_cons_of_mem _ List.mem_cons_self))))) | exact ne_of_ps (by assumption) (by first | with_reducible exact List.mem_cons_self | with_reducible exact (List.mem_cons_of_mem _ List.mem_cons_self) | with_reducible exact (List.mem_cons_of_mem _ (List.mem_cons_of_mem _ List.mem_cons_self)) | with_reducible exact (List.mem_cons_of_mem _ (List.mem_cons_of_mem _ (List.mem_cons_of_mem _ List.mem_cons_self))) | with_reducible exact (List.mem_cons_of_mem _ (List.mem_cons_of_mem _ (List.mem_cons_of_mem _ (List.mem_cons_of_mem _ List.mem_cons_self))))))))); with_unfolding_all rfl)) ⟨hV2, hE2, hW2, .inl hp⟩
          · rw [decide_eq_false hp]
            dsimp only [Bool.not_false]
            have hp0 : 0 < pw2.length := by
              cases pw2 with
              | nil => exact absurd rfl hp
              | cons => simp
            k_steps
            unfold Stop
            refine item_pair N33 (.tail _ (.tail _ (.head _))) hV2 (by omega) (by omega) (by omega) ?_
            intro c3 t3 t3' k3 hc3
            k_steps
            unfold Stop
            refine kba_turn (value' := PySem.Expr.Name (PySem.Str.ofString "x") ⟨0, 0, 0, 0⟩) (fun _ => rfl) (pair_fst N33 (.tail _ (.tail _ (.tail _ (hsub2 _ hc3)))) ?_)
            k_steps
            · unfold Stop
              have N34 := news_cons (.tail _ (.tail _ (.head _))) N33 (news_cons (.tail _ (.head _)) N33 (fun p hp => N33 p (.tail _ (.tail _ (.tail _ hp)))))
              clear N33
              have hlt : (pw2.getD 0 (0, 0)).1 < 4 * (i : Int) := by assumption
              have hoffW2 : ∀ p ∈ (le, listOf ve2.toArray ne2) :: (tl ++ own), p.1 ≠ DW := fun p hp => by
                rcases List.mem_cons.mp hp with rfl | hp
                · exact fun e => hWl e.symm
                · rcases List.mem_append.mp hp with hp | hp
                  · exact htl2 p hp
                  · exact hown2 p hp
              with_unfolding_all refine tells_use (pop_tells hV2 (len_a hln2 hblN).1 hp0 (fun z hz => .tail _ (hsub2 z hz)) hoffW2) (by k_asm) (by k_asm) (by k_asm) N34 (by k_asm) (by rfl) (by ktr_room) (by ktr_units) ?_
              rintro v h tk news ⟨⟨c4, t4, t4', k4, rfl, hc4⟩, vw3, nw3, hV3, rfl⟩ F35 N35
              clear N34
              dsimp only
              k_steps
              unfold Stop
              refine kba_turn (value' := PySem.Expr.Name (PySem.Str.ofString "x") ⟨0, 0, 0, 0⟩) (fun _ => rfl) (pair_snd N35 (.tail _ (.tail _ (hsub2 _ hc4))) ?_)
              k_steps
              unfold Stop
              have hoffE2 : ∀ p ∈ (DW, listOf vw3.toArray nw3) :: (tl ++ own), p.1 ≠ le := fun p hp => by
                rcases List.mem_cons.mp hp with rfl | hp
                · exact hWl
                · rcases List.mem_append.mp hp with hp | hp
                  · exact htl1 p hp
                  · exact hown1 p hp
              have N36 := news_cons (.tail _ (.head _)) N35 (news_cons (.head _) N35 (fun p hp => N35 p (.tail _ (.tail _ hp))))
              clear N35
              with_unfolding_all refine tells_use (insort_tells hE2 (len_a hln2 hblN).2 hW2.2.1 hoffE2) (by k_asm) (by k_asm) (by k_asm) N36 (by k_asm) (by rfl) (by ktr_room) (by ktr_units) ?_
              rintro v h tk news ⟨rfl, ve4, p4, hcut4, hE4, rfl⟩ F37 N37
              clear N36
              dsimp only
              k_steps
              refine my_end ⟨vw3, (popF pw2).2, nw3, ve4, es2.take p4.toNat ++ (popF pw2).1.2 :: es2.drop p4.toNat, ne2 + 1⟩ (by assumption) (by assumption) (fun p hp => hp) trivial (List.forall_mem_nil _) (by (intros; (try dsimp only); (repeat refine Eq.trans (if_neg (by first | assumption | exact nct (by assumption) | exact nct_sub (by assumption) (by decide +kernel) | exact ne_of_ct (by assumption) (by first | with_reducible exact List.mem_cons_self | with_reducible exact (List.mem_cons_of_mem _ List.mem_cons_self) | with_reducible exact (List.mem_cons_of_mem _ (List.mem_cons_of_mem _ List.mem_cons_self)) | with_reducible exact (List.mem_cons_of_mem _ (List.mem_cons_of_mem _ (List.mem_cons_of_mem _ List.mem_cons_self))) | with_reducible exact (List.mem_cons_of_mem _ (List.mem_cons_of_mem _ (List.mem_cons_of_mem _ (List.mem_cons_of_mem _ List.mem_cons_self))))) | exact ne_of_ps (by assumption) (by first | with_reducible exact List.mem_cons_self | with_reducible exact (List.mem_cons_of_mem _ List.mem_cons_self) | with_reducible exact (List.mem_cons_of_mem _ (List.mem_cons_of_mem _ List.mem_cons_self)) | with_reducible exact (List.mem_cons_of_mem _ (List.mem_cons_of_mem _ (List.mem_cons_of_mem _ List.mem_cons_self))) | with_reducible exact (List.mem_cons_of_mem _ (List.mem_cons_of_mem _ (List.mem_cons_of_mem _ (List.mem_cons_of_mem _ List.mem_cons_self))))))) ?_); (repeat refine Eq.trans ?_ (Eq.symm (if_neg (by first | assumption | exact nct (by assumption) | exact nct_sub (by assumption) (by decide +kernel) | exact ne_of_ct (by assumption) (by first | with_reducible exact List.mem_cons_self | with_reducible exact (List.mem_cons_of_mem _ List.mem_cons_self) | with_reducible exact (List.mem_cons_of_mem _ (List.mem_cons_of_mem _ List.mem_cons_self)) | with_reducible exact (List.mem_cons_of_mem _ (List.mem_cons_of_mem _ (List.mem_cons_of_mem _ List.mem_cons_self))) | with_reducible exact (List.mem_cons_of_mem _ (List.mem_cons_of_mem _ (List.mem_cons_of_mem _ (List.mem_cons_of_mem _ List.mem_cons_self))))) | exact ne_of_ps (by assumption) (by first | with_reducible exact List.mem_cons_self | with_reducible exact (List.mem_cons_of_mem _ List.mem_cons_self) | with_reducible exact (List.mem_cons_of_mem _ (List.mem_cons_of_mem _ List.mem_cons_self)) | with_reducible exact (List.mem_cons_of_mem _ (List.mem_cons_of_mem _ (List.mem_cons_of_mem _ List.mem_cons_self))) | with_reducible exact (List.mem_cons_of_mem _ (List.mem_cons_of_mem _ (List.mem_cons_of_mem _ (List.mem_cons_of_mem _ List.mem_cons_self))))))))); with_unfolding_all rfl)) ⟨hV3, hE4, wi_pop hW2 hp0 hlt hcut4⟩ (by have := pop_len pw2 hp0; show (popF pw2).2.length < pw2.length; omega)
            · have hge : ¬ (pw2.getD 0 (0, 0)).1 < 4 * (i : Int) := by assumption
              refine my_out ⟨vw2, pw2, nw2, ve2, es2, ne2⟩ (by assumption) N33 (fun p hp => .tail _ hp) (List.forall_mem_nil _) (by (intros; (try dsimp only); (repeat refine Eq.trans (if_neg (by first | assumption | exact nct (by assumption) | exact nct_sub (by assumption) (by decide +kernel) | exact ne_of_ct (by assumption) (by first | with_reducible exact List.mem_cons_self | with_reducible exact (List.mem_cons_of_mem _ List.mem_cons_self) | with_reducible exact (List.mem_cons_of_mem _ (List.mem_cons_of_mem _ List.mem_cons_self)) | with_reducible exact (List.mem_cons_of_mem _ (List.mem_cons_of_mem _ (List.mem_cons_of_mem _ List.mem_cons_self))) | with_reducible exact (List.mem_cons_of_mem _ (List.mem_cons_of_mem _ (List.mem_cons_of_mem _ (List.mem_cons_of_mem _ List.mem_cons_self))))) | exact ne_of_ps (by assumption) (by first | with_reducible exact List.mem_cons_self | with_reducible exact (List.mem_cons_of_mem _ List.mem_cons_self) | with_reducible exact (List.mem_cons_of_mem _ (List.mem_cons_of_mem _ List.mem_cons_self)) | with_reducible exact (List.mem_cons_of_mem _ (List.mem_cons_of_mem _ (List.mem_cons_of_mem _ List.mem_cons_self))) | with_reducible exact (List.mem_cons_of_mem _ (List.mem_cons_of_mem _ (List.mem_cons_of_mem _ (List.mem_cons_of_mem _ List.mem_cons_self))))))) ?_); (repeat refine Eq.trans ?_ (Eq.symm (if_neg (by first | assumption | exact nct (by assumption) | exact nct_sub (by assumption) (by decide +kernel) | exact ne_of_ct (by assumption) (by first | with_reducible exact List.mem_cons_self | with_reducible exact (List.mem_cons_of_mem _ List.mem_cons_self) | with_reducible exact (List.mem_cons_of_mem _ (List.mem_cons_of_mem _ List.mem_cons_self)) | with_reducible exact (List.mem_cons_of_mem _ (List.mem_cons_of_mem _ (List.mem_cons_of_mem _ List.mem_cons_self))) | with_reducible exact (List.mem_cons_of_mem _ (List.mem_cons_of_mem _ (List.mem_cons_of_mem _ (List.mem_cons_of_mem _ List.mem_cons_self))))) | exact ne_of_ps (by assumption) (by first | with_reducible exact List.mem_cons_self | with_reducible exact (List.mem_cons_of_mem _ List.mem_cons_self) | with_reducible exact (List.mem_cons_of_mem _ (List.mem_cons_of_mem _ List.mem_cons_self)) | with_reducible exact (List.mem_cons_of_mem _ (List.mem_cons_of_mem _ (List.mem_cons_of_mem _ List.mem_cons_self))) | with_reducible exact (List.mem_cons_of_mem _ (List.mem_cons_of_mem _ (List.mem_cons_of_mem _ (List.mem_cons_of_mem _ List.mem_cons_self))))))))); with_unfolding_all rfl)) ⟨hV2, hE2, hW2, .inr (Int.not_lt.mp hge)⟩
        case kd3 =>
          rintro ⟨vw2, pw2, nw2, ve2, es2, ne2⟩ u2 h32 tk32 ⟨hV2, hE2, hX2⟩ F32 N32
          dsimp only [kstB, envOfC, List.cons_append] at hV2 hE2 hX2 F32 N32
          have hln2 := wi_len hX2.1
          k_steps
          unfold Stop
          (rename Fr _ _ _ _ => lF41)
          with_unfolding_all refine' For_invVF lF41 ?k1 ?k2 ?_
          case k1 => exact rfl
          case k2 => exact rfl
          k_steps
          unfold Stop
          (rename Fr _ _ _ _ => lF42); (rename News _ _ _ _ => lN42); (rename IsRange _ _ _ _ _ _ _ _ => hR2)
          have hib : (i : Int) < broad + 1 := by omega
          have eN2 : (((broad + 1 - i).toNat : Nat) : Int) = broad + 1 - i := by omega
          with_unfolding_all refine' for_range (σ := Unit) (n := (broad + 1 - i).toNat) (fun c => (le, listOf ve2.toArray ne2) :: (DW, listOf vw2.toArray nw2) :: (tl ++ own)) (fun c => []) (fun _ => True) [Str.ofString "shared", Str.ofString "due"] (fun i c => True) () rfl hR2 ?ks ?kn lF42 lN42 trivial (List.forall_mem_nil _) trivial ?kt3 ?kd4
          case ks => exact small_one (by omega) (by omega) (by omega) (by omega)
          case kn => rw [eN2]; unfold Builtin.Range.rangeSize; simp; omega
          case kt3 =>
            rintro jj ⟨⟩ t3 u3 h51 tk51 own2 hj ho2 hadr2 _ _ F51 N51
            dsimp only [kstB, envOfC, List.cons_append, List.map_cons] at F51 N51 ho2
            k_steps
            unfold Stop
            with_unfolding_all refine tells_use (bis2 hE2 (len_a hln2 hblN).2 hX2.1.2.1) (by k_asm) (by k_asm) (by k_asm) (by k_asm) (by k_asm) (by rfl) (by ktr_room) (by ktr_units) ?_
            rintro v h52 tk52 news ⟨rfl, p5, t5, rfl, hc5⟩ F52 N52
            dsimp only
            k_steps
            unfold Stop
            with_unfolding_all refine tells_use (bis2 hE2 (len_a hln2 hblN).2 hX2.1.2.1) (by k_asm) (by k_asm) (by k_asm) (by k_asm) (by k_asm) (by rfl) (by ktr_room) (by ktr_units) ?_
            rintro v h53 tk53 news ⟨rfl, q5, t6, rfl, hc6⟩ F53 N53
            dsimp only
            k_steps
            unfold Stop
            (with_reducible rename Fr _ _ _ _ => F54); (with_reducible rename News _ _ _ _ => N54)
            have hji : (i : Int) + (jj : Int) ≤ broad := by omega
            refine my_ss (s := ⟨_, _, _, _, _⟩) F54 N54 (by rw [List.length_map]; omega) (by omega) (by omega) (by rw [List.length_map]; omega) ?_
            intro h55 t55 k55 F55 N55
            k_steps
            unfold Stop
            have hdue := law_due hlb hob (i := i) (j := i + jj) (by omega) (by omega) (p := p5) (q := q5) (by rw [hblE, ← wx_end hX2]; exact hc5) (by rw [hblE, ← wx_end hX2]; exact hc6)
            have e1 : 2 * ((lets.length : Int) + ((i + jj : Nat) : Int) - (i : Int)) = 2 * (wide + ((i : Int) + (jj : Int)) - (i : Int)) := by omega
            have e2 : i + jj - i = ((i : Int) + (jj : Int) - (i : Int)).toNat := by omega
            have e3 : (((i : Nat) : Int)).toNat = i := Int.toNat_natCast i
            rw [e1, e2] at hdue
            rw [e3]
            generalize 2 * (wide + ((i : Int) + (jj : Int)) - (i : Int)) - (p5 - q5) = due at *
            with_unfolding_all refine tells_use (lev_tells (by rw [List.length_map]; omega) (by rw [List.length_take, List.length_drop, List.length_map]; omega) (let_map hlb) (fun x hx => let_map hob x (List.mem_of_mem_drop (List.mem_of_mem_take hx)))) (by k_asm) (by k_asm) (by k_asm) (by k_asm) (by k_asm) (by rfl) (by ktr_room) (by ktr_units) ?_
            rintro v h56 tk56 news ⟨rfl, t7, rfl⟩ F56 N56
            dsimp only
            rw [hdue]
            k_steps
            refine f_end () (by assumption) (by assumption) led_l led_r rfl trivial (List.forall_mem_nil _) ?_ trivial
            (intros; (try dsimp only); (repeat refine Eq.trans (if_neg (by first | assumption | exact nct (by assumption) | exact nct_sub (by assumption) (by decide +kernel) | exact ne_of_ct (by assumption) (by first | with_reducible exact List.mem_cons_self | with_reducible exact (List.mem_cons_of_mem _ List.mem_cons_self) | with_reducible exact (List.mem_cons_of_mem _ (List.mem_cons_of_mem _ List.mem_cons_self)) | with_reducible exact (List.mem_cons_of_mem _ (List.mem_cons_of_mem _ (List.mem_cons_of_mem _ List.mem_cons_self))) | with_reducible exact (List.mem_cons_of_mem _ (List.mem_cons_of_mem _ (List.mem_cons_of_mem _ (List.mem_cons_of_mem _ List.mem_cons_self))))) | exact ne_of_ps (by assumption) (by first | with_reducible exact List.mem_cons_self | with_reducible exact (List.mem_cons_of_mem _ List.mem_cons_self) | with_reducible exact (List.mem_cons_of_mem _ (List.mem_cons_of_mem _ List.mem_cons_self)) | with_reducible exact (List.mem_cons_of_mem _ (List.mem_cons_of_mem _ (List.mem_cons_of_mem _ List.mem_cons_self))) | with_reducible exact (List.mem_cons_of_mem _ (List.mem_cons_of_mem _ (List.mem_cons_of_mem _ (List.mem_cons_of_mem _ List.mem_cons_self))))))) ?_); (repeat refine Eq.trans ?_ (Eq.symm (if_neg (by first | assumption | exact nct (by assumption) | exact nct_sub (by assumption) (by decide +kernel) | exact ne_of_ct (by assumption) (by first | with_reducible exact List.mem_cons_self | with_reducible exact (List.mem_cons_of_mem _ List.mem_cons_self) | with_reducible exact (List.mem_cons_of_mem _ (List.mem_cons_of_mem _ List.mem_cons_self)) | with_reducible exact (List.mem_cons_of_mem _ (List.mem_cons_of_mem _ (List.mem_cons_of_mem _ List.mem_cons_self))) | with_reducible exact (List.mem_cons_of_mem _ (List.mem_cons_of_mem _ (List.mem_cons_of_mem _ (List.mem_cons_of_mem _ List.mem_cons_self))))) | exact ne_of_ps (by assumption) (by first | with_reducible exact List.mem_cons_self | with_reducible exact (List.mem_cons_of_mem _ List.mem_cons_self) | with_reducible exact (List.mem_cons_of_mem _ (List.mem_cons_of_mem _ List.mem_cons_self)) | with_reducible exact (List.mem_cons_of_mem _ (List.mem_cons_of_mem _ (List.mem_cons_of_mem _ List.mem_cons_self))) | with_reducible exact (List.mem_cons_of_mem _ (List.mem_cons_of_mem _ (List.mem_cons_of_mem _ (List.mem_cons_of_mem _ List.mem_cons_self))))))))); with_unfolding_all rfl)
          case kd4 =>
            rintro ⟨⟩ u3 h51 tk51 _ _ F51 N51
            dsimp only [kstB, envOfC, List.cons_append, List.map_cons] at F51 N51
            k_steps
            refine f_end ⟨vw2, pw2, nw2, ve2, es2, ne2⟩ (by assumption) (by assumption) led_l led_r rfl trivial (List.forall_mem_nil _) ?_ ⟨hV2, hE2, wi_up hX2.1 (by omega), fun _ => ?_⟩
            · (intros; (try dsimp only); (repeat refine Eq.trans (if_neg (by first | assumption | exact nct (by assumption) | exact nct_sub (by assumption) (by decide +kernel) | exact ne_of_ct (by assumption) (by first | with_reducible exact List.mem_cons_self | with_reducible exact (List.mem_cons_of_mem _ List.mem_cons_self) | with_reducible exact (List.mem_cons_of_mem _ (List.mem_cons_of_mem _ List.mem_cons_self)) | with_reducible exact (List.mem_cons_of_mem _ (List.mem_cons_of_mem _ (List.mem_cons_of_mem _ List.mem_cons_self))) | with_reducible exact (List.mem_cons_of_mem _ (List.mem_cons_of_mem _ (List.mem_cons_of_mem _ (List.mem_cons_of_mem _ List.mem_cons_self))))) | exact ne_of_ps (by assumption) (by first | with_reducible exact List.mem_cons_self | with_reducible exact (List.mem_cons_of_mem _ List.mem_cons_self) | with_reducible exact (List.mem_cons_of_mem _ (List.mem_cons_of_mem _ List.mem_cons_self)) | with_reducible exact (List.mem_cons_of_mem _ (List.mem_cons_of_mem _ (List.mem_cons_of_mem _ List.mem_cons_self))) | with_reducible exact (List.mem_cons_of_mem _ (List.mem_cons_of_mem _ (List.mem_cons_of_mem _ (List.mem_cons_of_mem _ List.mem_cons_self))))))) ?_); (repeat refine Eq.trans ?_ (Eq.symm (if_neg (by first | assumption | exact nct (by assumption) | exact nct_sub (by assumption) (by decide +kernel) | exact ne_of_ct (by assumption) (by first | with_reducible exact List.mem_cons_self | with_reducible exact (List.mem_cons_of_mem _ List.mem_cons_self) | with_reducible exact (List.mem_cons_of_mem _ (List.mem_cons_of_mem _ List.mem_cons_self)) | with_reducible exact (List.mem_cons_of_mem _ (List.mem_cons_of_mem _ (List.mem_cons_of_mem _ List.mem_cons_self))) | with_reducible exact (List.mem_cons_of_mem _ (List.mem_cons_of_mem _ (List.mem_cons_of_mem _ (List.mem_cons_of_mem _ List.mem_cons_self))))) | exact ne_of_ps (by assumption) (by first | with_reducible exact List.mem_cons_self | with_reducible exact (List.mem_cons_of_mem _ List.mem_cons_self) | with_reducible exact (List.mem_cons_of_mem _ (List.mem_cons_of_mem _ List.mem_cons_self)) | with_reducible exact (List.mem_cons_of_mem _ (List.mem_cons_of_mem _ (List.mem_cons_of_mem _ List.mem_cons_self))) | with_reducible exact (List.mem_cons_of_mem _ (List.mem_cons_of_mem _ (List.mem_cons_of_mem _ (List.mem_cons_of_mem _ List.mem_cons_self))))))))); with_unfolding_all rfl)
            · have e : 4 * (((i + 1 : Nat) : Int) - 1) = 4 * (i : Int) := by omega
              rw [e]; exact hX2
      case kd2 =>
        rintro ⟨vw1, pw1, nw1, ve1, es1, ne1⟩ u1 h31 tk31 _ ⟨hV1, hE1, hW1, hX1⟩ F31 N31
        dsimp only [kstB, envOfC, List.cons_append, List.map_cons] at hV1 hE1 hW1 hX1 F31 N31
        have hfin := hX1 (by omega)
        have hln1 := wi_len hW1
        obtain ⟨rfl, rfl⟩ := wx_last hfin (by
          intro v hv
          rw [← hblE] at hv
          have := bl_lt v hv
          omega)
        k_steps
        unfold Stop
        (with_reducible rename News _ _ _ _ => N61)
        refine eq_pairs_nil N61 (.tail _ (.tail _ (.head _))) hV1 (fun z hz => .tail _ (.tail _ (.tail _ hz))) (.head _) (by ke_room) ?_
        rw [decide_eq_true rfl]
        k_steps
        unfold Stop
        (with_reducible rename News _ _ _ _ => N62); (with_reducible rename Fr _ _ _ _ => F62); (rename IsRange _ _ _ _ _ _ _ _ => hR3)
        have eN3 : (((4 * broad).toNat : Nat) : Int) = 4 * broad := by omega
        refine my_listrange (n := (4 * broad).toNat) rfl F62 N62 hR3 (small_one (by omega) (by omega) (by omega) (by omega)) (by rw [eN3]; unfold Builtin.Range.rangeSize; simp; omega) (by omega) ?_
        intro D3 us3 c3 h63 tk63 F63 N63 hlt3 hI3
        k_steps
        unfold Stop
        refine eq_ints_led N63 (.tail _ (.tail _ (.head _))) hE1 (.head _) hI3 (by ke_room) ?_
        have eK : rangeKs 0 bl.length = (List.range (4 * broad).toNat).map fun i : Nat => (0 : Int) + (i : Int) * 1 := by
          rw [hbl]; unfold rangeKs
          exact List.map_congr_left fun x _ => by omega
        rw [decide_eq_true eK]
        k_steps)
end
end Mine
theorem PySem.Challenge.cw_pg0183_01_holds : PySem.Challenge.rw_pg0183_01.Holds :=
  Mine.lawX
