import PyProof.Rows.All
import Wide.All
import OpenK.AllK
import Wide.FinOn
import PySem.Challenge.RW_op0091_01

section
open PySem PySem.W PyProof.Rows
set_option Elab.async false
namespace Mine
set_option maxRecDepth 100000
set_option maxHeartbeats 8000000
open_top hd for PySem.Challenge.rw_op0091_01
end Mine
end

section
open PySem PySem.W PyProof.Rows
set_option Elab.async false
set_option maxRecDepth 100000
namespace Mine
open PySem.AutoSeq1 (wpAny_loadPart')
open PySem.MeetsSeq PySem.MeetsSeq2 PySem.MeetsSeq3

def ltP (a b : Int × Int) : Bool := decide (a.1 < b.1 ∨ (a.1 = b.1 ∧ a.2 < b.2))

theorem lt_loop2 (l b : Addr) (a1 a2 b1 b2 : Int) (t1 t2 u1 u2 : Tok) (n n2 : Nat) :
    Meets (Builtin.«list.__eq__.loop» ⟨[.ref l, .ref b, rawInt (2 : Nat), rawInt 0], []⟩)
      (fun _ R s => s.heap.get? l = some (listOf #[.int a1 t1, .int a2 t2] n) ∧ s.heap.get? b = some (listOf #[.int b1 u1, .int b2 u2] n2) ∧
        R (.ok (.ret (.bool false))) s) := by
  intro prog w A R s h
  obtain ⟨hp, g, d, tk, os⟩ := s; obtain ⟨hl, hb, h⟩ := h
  wp_walk using wpAny_loadPart' hl, wpAny_loadPart' hb
  exact h

theorem lt_loop1 (l b : Addr) (a1 a2 b1 b2 : Int) (t1 t2 u1 u2 : Tok) (n n2 : Nat) :
    Meets (Builtin.«list.__eq__.loop» ⟨[.ref l, .ref b, rawInt (1 : Nat), rawInt 0], []⟩)
      (fun _ R s => s.heap.get? l = some (listOf #[.int a1 t1, .int a2 t2] n) ∧ s.heap.get? b = some (listOf #[.int b1 u1, .int b2 u2] n2) ∧
        R (.ok (.ret (.bool (decide (a2 < b2))))) s) := by
  intro prog w A R s h
  obtain ⟨hp, g, d, tk, os⟩ := s; obtain ⟨hl, hb, h⟩ := h
  wp_walk using wpAny_loadPart' hl, wpAny_loadPart' hb
  show wpAny _ _ (eqBool (.int a2 t2) (.int b2 u2)) _ _ _
  refine EqGives.int a2 b2 t2 u2 prog w _ _ _ _ ?_
  cases hc : (a2 == b2) with
  | true =>
    have e : a2 = b2 := by simpa using hc
    subst e
    wp_walk
    exact ⟨plainId_quiet plain_eq_loop _, codeAny_builtin entry_eq_loop (by
        rw [Around.under_plainId plain_eq_loop _]
        exact lt_loop2 l b a1 a2 b1 a2 t1 t2 u1 u2 n n2 prog w A R _ ⟨hl, hb, by simpa using h⟩)⟩
  | false =>
    simp only [Bool.false_eq_true, if_false]
    refine wpAny_bind (listItems_at hl rfl (wpAny_bind (listItems_at hb rfl ?_)))
    show wpAny _ _ (do let v ← richCompare .Lt (.int a2 t2) (.int b2 u2); ret v) _ _ _
    refine wpAny_bind (wpAny_lt_int (t := t2) (u := u2) ?_)
    exact wpAny_pure h

theorem lt_loop0 (l b : Addr) (a1 a2 b1 b2 : Int) (t1 t2 u1 u2 : Tok) (n n2 : Nat) :
    Meets (Builtin.«list.__eq__.loop» ⟨[.ref l, .ref b, rawInt 0, rawInt 0], []⟩)
      (fun _ R s => s.heap.get? l = some (listOf #[.int a1 t1, .int a2 t2] n) ∧ s.heap.get? b = some (listOf #[.int b1 u1, .int b2 u2] n2) ∧
        R (.ok (.ret (.bool (ltP (a1, a2) (b1, b2))))) s) := by
  intro prog w A R s h
  obtain ⟨hp, g, d, tk, os⟩ := s; obtain ⟨hl, hb, h⟩ := h
  wp_walk using wpAny_loadPart' hl, wpAny_loadPart' hb
  show wpAny _ _ (eqBool (.int a1 t1) (.int b1 u1)) _ _ _
  refine EqGives.int a1 b1 t1 u1 prog w _ _ _ _ ?_
  cases hc : (a1 == b1) with
  | true =>
    have e : a1 = b1 := by simpa using hc
    subst e
    wp_walk
    exact ⟨plainId_quiet plain_eq_loop _, codeAny_builtin entry_eq_loop (by
        rw [Around.under_plainId plain_eq_loop _]
        exact lt_loop1 l b a1 a2 a1 b2 t1 t2 u1 u2 n n2 prog w A R _ ⟨hl, hb, by simpa [ltP] using h⟩)⟩
  | false =>
    have e : a1 ≠ b1 := by simpa using hc
    simp only [Bool.false_eq_true, if_false]
    refine wpAny_bind (listItems_at hl rfl (wpAny_bind (listItems_at hb rfl ?_)))
    show wpAny _ _ (do let v ← richCompare .Lt (.int a1 t1) (.int b1 u1); ret v) _ _ _
    refine wpAny_bind (wpAny_lt_int (t := t1) (u := u1) ?_)
    refine wpAny_pure ?_
    have e2 : ltP (a1, a2) (b1, b2) = decide (a1 < b1) := by simp [ltP, e]
    rw [e2] at h
    exact h

theorem lt_meets (l b : Addr) (a1 a2 b1 b2 : Int) (t1 t2 u1 u2 : Tok) (n n2 : Nat) :
    Meets (Builtin.«list.__lt__» ⟨[.ref l, .ref b], []⟩)
      (fun _ R s => s.heap.get? l = some (listOf #[.int a1 t1, .int a2 t2] n) ∧ s.heap.get? b = some (listOf #[.int b1 u1, .int b2 u2] n2) ∧
        R (.ok (.ret (.bool (ltP (a1, a2) (b1, b2))))) s) := by
  intro prog w A R s h
  obtain ⟨hp, g, d, tk, os⟩ := s; obtain ⟨hl, hb, h⟩ := h
  have f3 := AutoSeq1.sub_list_list
  wp_walk using wpAny_loadPart' hl, wpAny_loadPart' hb
  exact ⟨plainId_quiet plain_eq_loop _, codeAny_builtin entry_eq_loop (by
    rw [Around.under_plainId plain_eq_loop _]
    exact lt_loop0 l b a1 a2 b1 b2 t1 t2 u1 u2 n n2 prog w A R _ ⟨hl, hb, h⟩)⟩

theorem lt_pair {prog : Program} {w : World} {A : Around} {E : Value → Shared → Prop} {s : Shared} {l b : Addr} {a1 a2 b1 b2 : Int} {t1 t2 u1 u2 : Tok} {n n2 : Nat} {Q : Value → Shared → Prop}
    (hl : s.heap.get? l = some (listOf #[.int a1 t1, .int a2 t2] n)) (hb : s.heap.get? b = some (listOf #[.int b1 u1, .int b2 u2] n2)) (hu : A.units < cLine)
    (h : Q (.bool (ltP (a1, a2) (b1, b2))) s) : wpAny (model prog w) A (compareOp .Lt (.ref l) (.ref b)) Q E s :=
  richCompare_meets_room (op := .Lt) ⟨_, hl, rfl⟩ ⟨_, hb, rfl⟩ F.slot_list_lt F.entry_list_lt (F.args_list_lt_2 _ _) (lt_meets l b a1 a2 b1 b2 t1 t2 u1 u2 n n2)
    ⟨hl, hb, show Value.bool (ltP (a1, a2) (b1, b2)) ≠ Value.notImplemented ∧ Q (.bool (ltP (a1, a2) (b1, b2))) s from ⟨(fun x => nomatch x), h⟩⟩ hu
end Mine
end

section
open PySem PySem.W PyProof.Rows
set_option Elab.async false
set_option maxRecDepth 100000
set_option maxHeartbeats 8000000
namespace Mine
abbrev heapOf (rs : List Addr) (n : Nat) : Obj := listOf (rs.map Value.ref).toArray n
/-- r is, in the ledger, a list of the two ints of v r -/
def IsBd (rest : List (Addr × Obj)) (v : Addr → Int × Int) (r : Addr) : Prop := ∃ t1 t2 n, (r, listOf #[.int (v r).1 t1, .int (v r).2 t2] n) ∈ rest

section
variable {prog : Program} {w : World} {A : Around} {E : Value → Shared → Prop} {s : Shared} {h₀ : Heap} {L D : Addr} {m : Str → Option Value} {news rest : List (Addr × Obj)} {rs : List Addr} {n : Nat} {k : Int} {t u : Tok} {v : Addr → Int × Int}
theorem hp_get {value slice : PySem.Expr} {Q : Value → Shared → Prop} (N : News h₀ L s.heap ((D, heapOf rs n) :: rest)) (hall : ∀ r ∈ rs, IsBd rest v r) (h0 : 0 ≤ k) (h1 : k < rs.length) (hfit : k < 2 ^ 63)
    (h : IsBd rest v (rs.getD k.toNat 0) → Q (.ref (rs.getD k.toNat 0)) s)
    (hs : subscripted slice false (.ref D) (.int k u) = operate [.ref D, .int k u] (getItem (.ref D) (.int k u)) := by with_unfolding_all rfl) (hg : ∀ r, letTemporaryGo value (.ref D) r = pure () := by intro _; with_unfolding_all rfl) :
    wpAny (model prog w) A (subscriptTail value slice (.ref D) (.int k u)) Q E s := by
  have hk : k.toNat < rs.length := by omega
  have hx : rs[k.toNat]? = some rs[k.toNat] := by simp [hk]
  have hd : rs.getD k.toNat 0 = rs[k.toNat] := by simp [List.getD, hx]
  refine kim_list N (List.Mem.head _) rfl rfl h0 hfit (x := .ref (rs.getD k.toNat 0)) ?_ (h (hd ▸ hall _ (List.getElem_mem hk))) hs hg
  rw [List.getElem?_map, hx, hd]; rfl
theorem hp_set {r : Addr} {Q : Unit → Shared → Prop} (F : Fr h₀ L s.heap m) (N : News h₀ L s.heap ((D, heapOf rs n) :: rest)) (hr : ∀ p ∈ rest, p.1 ≠ D) (h0 : 0 ≤ k) (h1 : k < rs.length) (hfit : k < 2 ^ 63)
    (h : ∀ h', Fr h₀ L h' m → News h₀ L h' ((D, heapOf (rs.set k.toNat r) n) :: rest) → Q () { s with heap := h' }) :
    wpAny (model prog w) A (setItem (.ref D) (.int k t) (.ref r)) Q E s := by
  have z := N _ (List.Mem.head _)
  refine ki_setAt z.1 h0 hfit (by simpa using h1) (h _ (F.change (Heap.SameBut.update ..) z.2.1 z.2.2) (ki_turn (pre := []) _ N (fun _ h => nomatch h) hr ?_ ?_))
  · show (rs.map Value.ref).toArray.setIfInBounds k.toNat (.ref r) = ((rs.set k.toNat r).map Value.ref).toArray
    apply Array.toList_inj.mp
    simp [List.map_set]
  · simp
theorem hp_len {Q : Value → Shared → Prop} (N : News h₀ L s.heap ((D, heapOf rs n) :: rest)) (hl : rs.length < 1000) (h : Q (.int (rs.length : Int) (s.toks + 1)) { s with toks := s.toks + 1 + 1 }) :
    wpAny (model prog w) A (call (.builtin "len") [.ref D]) Q E s := by
  refine len_list (PySem.IsL.isList (n := n) (N _ (.head _)).1) (by simp; omega) ?_
  simpa using h
theorem hp_truthy {Q : Bool → Shared → Prop} (N : News h₀ L s.heap ((D, heapOf rs n) :: rest)) (hl : rs.length < 1000) (h : Q (!rs.isEmpty) { s with toks := s.toks + 1 + 1 }) :
    wpAny (model prog w) A (truthy (.ref D)) Q E s := by
  refine wpAny_truthy_list (PySem.IsL.isList (n := n) (N _ (.head _)).1) (by simp; omega) ?_
  simpa using h
theorem hp_pop {y : Addr} {Q : Value → Shared → Prop} (F : Fr h₀ L s.heap m) (N : News h₀ L s.heap ((D, heapOf (rs ++ [y]) n) :: rest)) (hr : ∀ p ∈ rest, p.1 ≠ D) (hl : rs.length < 1000)
    (h : ∀ h', Fr h₀ L h' m → News h₀ L h' ((D, heapOf rs (n + 1)) :: rest) → Q (.ref y) { s with heap := h' }) : wpAny (model prog w) A (call (.builtin "list.pop") [.ref D]) Q E s := by
  refine kl_pop F N (p := rs.map Value.ref) (y := .ref y) ?_ (Upd.head hr) ?_ fun h' F' N' => h h' F' N'
  · have e := kpa_last (.ref y) (rs.map Value.ref)
    simpa using e
  · simp [sizeLine_eq]; omega
theorem rsh1 {q : Nat} {Q : Value → Shared → Prop} (hq : 0 < q) (h : Q (.int (((q - 1) / 2 : Nat) : Int) s.toks) { s with toks := s.toks + 1 }) :
    wpAny (model prog w) A (binaryOp .RShift (.int ((q : Int) - 1) t) (.int 1 u)) Q E s := by
  refine rshift_int (by decide) ?_
  have e : ((q : Int) - 1).fdiv (2 ^ (Int.toNat 1)) = (((q - 1) / 2 : Nat) : Int) := by
    rw [show ((2 : Int) ^ (Int.toNat 1)) = 2 from rfl, Int.fdiv_eq_ediv_of_nonneg _ (by decide)]
    omega
  rw [e]; exact h
theorem lt_bd {r r' : Addr} {x : Addr × Obj} {Q : Value → Shared → Prop} (N : News h₀ L s.heap (x :: rest)) (h1 : IsBd rest v r) (h2 : IsBd rest v r') (hu : A.units < cLine)
    (h : Q (.bool (ltP (v r) (v r'))) s) : wpAny (model prog w) A (compareOp .Lt (.ref r) (.ref r')) Q E s := by
  obtain ⟨t1, t2, n, h1⟩ := h1
  obtain ⟨u1, u2, n', h2⟩ := h2
  exact lt_pair (N _ (.tail _ h1)).1 (N _ (.tail _ h2)).1 hu h
end

/-- a mark at which the walk stands still -/
structure Stop (P : Prop) : Prop where
  out : P

/-- the end of a turn, or of a loop: a state c that is borne, of which P -/
def WEnd {σ : Type} (h₀ : Heap) (L : Addr) (s : Shared) (Led : σ → List (Addr × Obj)) (ps : σ → List (Str × Value)) (P : σ → Prop) (s₂ : Shared) : Prop :=
  ∃ c h tk m' news', s₂ = { s with heap := h, toks := tk } ∧ Fr h₀ L h m' ∧ News h₀ L h news' ∧ (∀ p ∈ Led c, p ∈ news') ∧ (∀ p ∈ ps c, m' p.1 = some p.2) ∧ P c
theorem WEnd.mk {σ : Type} {h₀ : Heap} {L : Addr} {s : Shared} {Led : σ → List (Addr × Obj)} {ps : σ → List (Str × Value)} {P : σ → Prop} {h : Heap} {tk : Nat} {m' : Str → Option Value} {news' : List (Addr × Obj)} (c : σ)
    (F : Fr h₀ L h m') (N : News h₀ L h news') (hn : ∀ p ∈ Led c, p ∈ news') (hk : ∀ p ∈ ps c, m' p.1 = some p.2) (hp : P c) : WEnd h₀ L s Led ps P { s with heap := h, toks := tk } :=
  ⟨c, h, tk, m', news', rfl, F, N, hn, hk, hp⟩
def WPost {σ : Type} (h₀ : Heap) (L : Addr) (s : Shared) (Led : σ → List (Addr × Obj)) (ps : σ → List (Str × Value)) (P D : σ → Prop) (Q : Flow → Shared → Prop) (f : Flow) (s₂ : Shared) : Prop :=
  match f with
  | .ret v => Q (.ret v) s₂
  | .brk => WEnd h₀ L s Led ps D s₂
  | _ => WEnd h₀ L s Led ps P s₂
/-- a condition's two ways -/
def WIf (b : Bool) (T F : Prop) : Prop := if b = true then T else F
theorem WIf.of {b : Bool} {T F : Prop} (h1 : b = true → T) (h2 : b = false → F) : WIf b T F := by
  cases b with
  | true => exact h1 rfl
  | false => exact h2 rfl
theorem kstB_self {m' : Str → Option Value} : ∀ {ps : List (Str × Value)}, (∀ p ∈ ps, m' p.1 = some p.2) → kstB m' ps = m'
  | ps, h => funext fun _ => kstB_eq h fun _ => rfl

theorem wh {prog : Program} {w : World} {A : Around} {E : Value → Shared → Prop} {Q : Flow → Shared → Prop} {s : Shared} {env : Env} {h₀ : Heap} {L : Addr} {σ : Type} {test : Expr} {body : List Stmt} {pos : Pos} {m₀ : Str → Option Value} {news₀ : List (Addr × Obj)}
    (Led : σ → List (Addr × Obj)) (ps : σ → List (Str × Value)) (P D : σ → Prop) (μ : σ → Nat) (c₀ : σ)
    (F : Fr h₀ L s.heap m₀) (N : News h₀ L s.heap news₀) (hn : ∀ p ∈ Led c₀, p ∈ news₀) (hk : ∀ p ∈ ps c₀, m₀ p.1 = some p.2) (hp : P c₀)
    (turn : ∀ (c : σ) (u : Str → Option Value) h tk, P c → Fr h₀ L h (kstB u (ps c)) → News h₀ L h (Led c) →
      wpAny (model prog w) A (isTrue test env (eval test env)) (fun b s₂ =>
        WIf b (wpAny (model prog w) A (execs body env) (WPost h₀ L s Led ps (fun c' => P c' ∧ μ c' < μ c) D Q) E s₂) (WEnd h₀ L s Led ps D s₂)) E { s with heap := h, toks := tk })
    (done : ∀ (c : σ) (u : Str → Option Value) h tk, D c → Fr h₀ L h (kstB u (ps c)) → News h₀ L h (Led c) → Q .next { s with heap := h, toks := tk })
    (hE : PassesOwn (model prog w) A env E := by passes_own) :
    wpAny (model prog w) A (exec (.While test body [] pos) env) Q E s := by
  refine While_inv2 (fun n m nx => ∃ c : σ, nx = Led c ∧ μ c = n ∧ (∀ p ∈ ps c, m p.1 = some p.2) ∧ P c) (news := Led c₀) F (fun p hp => N p (hn p hp)) ⟨c₀, rfl, rfl, hk, hp⟩ ?_ hE
  rintro n m₁ nx h tk F₁ N₁ ⟨c, hnx, hsz, h1, hp'⟩
  rw [hnx] at N₁
  rw [← hsz]
  have out : ∀ s₂, WEnd h₀ L s Led ps D s₂ → Q .next s₂ := by
    rintro s₂ ⟨c', h', tk', m', news', rfl, F', N', hn', hk', hd⟩
    exact done c' m' h' tk' hd (by rw [kstB_self hk']; exact F') fun p hp => N' p (hn' p hp)
  refine wpAny_mono (turn c m₁ h tk hp' (by rw [kstB_self h1]; exact F₁) N₁) (fun b s₂ p => ?_) fun _ _ x => x
  cases b with
  | false =>
    have p' : WEnd h₀ L s Led ps D s₂ := p
    simpa using out s₂ p'
  | true =>
    have p' : wpAny (model prog w) A (execs body env) (WPost h₀ L s Led ps (fun c' => P c' ∧ μ c' < μ c) D Q) E s₂ := p
    simp only [if_true]
    refine wpAny_mono p' (fun f s₃ q => ?_) fun _ _ x => x
    cases f with
    | ret v => exact q
    | brk => exact out s₃ q
    | next =>
      obtain ⟨c', h', tk', m', news', rfl, F', N', hn', hk', hd, hm⟩ := q
      exact ⟨h', tk', m', Led c', μ c', rfl, F', fun p hp => N' p (hn' p hp), hm, c', rfl, rfl, hk', hd⟩
    | cont =>
      obtain ⟨c', h', tk', m', news', rfl, F', N', hn', hk', hd, hm⟩ := q
      exact ⟨h', tk', m', Led c', μ c', rfl, F', fun p hp => N' p (hn' p hp), hm, c', rfl, rfl, hk', hd⟩

def FEnd {σ : Type} (h₀ : Heap) (L : Addr) (s : Shared) (Led : σ → List (Addr × Obj)) (ps : σ → List (Str × Value)) (own : List (Addr × Obj)) (P : σ → Prop) (s₂ : Shared) : Prop :=
  ∃ c h tk m' news', s₂ = { s with heap := h, toks := tk } ∧ Fr h₀ L h m' ∧ News h₀ L h news' ∧ (∀ p ∈ Led c, p ∈ news') ∧ (∀ p ∈ own, p ∈ news') ∧ (∀ p ∈ ps c, m' p.1 = some p.2) ∧ P c
theorem FEnd.mk {σ : Type} {h₀ : Heap} {L : Addr} {s : Shared} {Led : σ → List (Addr × Obj)} {ps : σ → List (Str × Value)} {own : List (Addr × Obj)} {P : σ → Prop} {h : Heap} {tk : Nat} {m' : Str → Option Value} {news' : List (Addr × Obj)} (c : σ)
    (F : Fr h₀ L h m') (N : News h₀ L h news') (hn : ∀ p ∈ Led c, p ∈ news') (ho : ∀ p ∈ own, p ∈ news') (hk : ∀ p ∈ ps c, m' p.1 = some p.2) (hp : P c) : FEnd h₀ L s Led ps own P { s with heap := h, toks := tk } :=
  ⟨c, h, tk, m', news', rfl, F, N, hn, ho, hk, hp⟩
def FPost {σ : Type} (h₀ : Heap) (L : Addr) (s : Shared) (Led : σ → List (Addr × Obj)) (ps : σ → List (Str × Value)) (own : List (Addr × Obj)) (P : σ → Prop) (Q : Flow → Shared → Prop) (f : Flow) (s₂ : Shared) : Prop :=
  match f with
  | .ret v => Q (.ret v) s₂
  | .brk => Q .next s₂
  | _ => FEnd h₀ L s Led ps own P s₂
theorem fw {prog : Program} {w : World} {A : Around} {E : Value → Shared → Prop} {Q : Flow → Shared → Prop} {s : Shared} {env : Env} {h₀ : Heap} {σ : Type} {x : Str} {body : List Stmt} {m₀ : Str → Option Value} {news₀ : List (Addr × Obj)}
    {I : Addr} {fp wr : List Addr} {n : Nat} {P : Nat → Value → Prop} {St : Nat → Heap → Prop}
    (Led : σ → List (Addr × Obj)) (ps : σ → List (Str × Value)) (P' : Nat → σ → Prop) (c₀ : σ)
    (W : Walks prog w A I fp wr n P St) (hadr : ∀ c, (Led c).map (·.1) = (Led c₀).map (·.1)) (hLf : env.locals ∉ fp) (hwr : ∀ b ∈ wr, h₀.get? b = none) (hfp : ∀ q ∈ Led c₀, q.1 ∉ fp) (hst : St 0 s.heap)
    (F : Fr h₀ env.locals s.heap m₀) (N : News h₀ env.locals s.heap news₀) (hn : ∀ p ∈ Led c₀, p ∈ news₀) (hk : ∀ p ∈ ps c₀, m₀ p.1 = some p.2) (hp : P' 0 c₀)
    (turn : ∀ i (c : σ) v (u : Str → Option Value) h tk own, i < n → P i v → OwnOff own ((Led c₀).map (·.1)) → P' i c → Fr h₀ env.locals h (fun y => if y = x then some v else kstB u (ps c) y) → News h₀ env.locals h (Led c ++ own) →
      wpAny (model prog w) A (execs body env) (FPost h₀ env.locals s Led ps own (P' (i + 1)) Q) E { s with heap := h, toks := tk })
    (done : ∀ (c : σ) (u : Str → Option Value) h tk, P' n c → Fr h₀ env.locals h (kstB u (ps c)) → News h₀ env.locals h (Led c) → Q .next { s with heap := h, toks := tk }) :
    LoopAtV prog w A h₀ env x body Q E (.ref I) s := by
  refine loop_invN (news := Led c₀) (fun i m nx => ∃ c, nx = Led c ∧ (∀ p ∈ ps c, m p.1 = some p.2) ∧ P' i c) W hLf hwr (fun p hp hq => hfp p hp (W.sub _ hq)) hfp hst F (fun p hp => N p (hn p hp)) ⟨c₀, rfl, hk, hp⟩ ?_ ?_
  · rintro i v m₁ news₁ h tk own hin hP _ hsep ⟨c, rfl, hk', hp'⟩ F₁ N₁
    refine wpAny_mono (turn i c v m₁ h tk own hin hP hsep hp' (by rw [kstB_self hk']; exact F₁) N₁) (fun f s₂ q => ?_) fun _ _ x => x
    have fin : FEnd h₀ env.locals s Led ps own (P' (i + 1)) s₂ → InvEndN h₀ env.locals (fun m nx => ∃ c, nx = Led c ∧ (∀ p ∈ ps c, m p.1 = some p.2) ∧ P' (i + 1) c) own ((Led c₀).map (·.1)) { s with heap := h, toks := tk } s₂ := by
      rintro ⟨c', h', tk', m', news', rfl, F', N', hn', ho', hk', hd⟩
      exact ⟨h', tk', m', news', Led c', rfl, F', N', hn', ho', hadr c', c', rfl, hk', hd⟩
    cases f with
    | ret v => exact q
    | brk => exact q
    | next => exact fin q
    | cont => exact fin q
  · rintro m₁ nx h tk ⟨c, rfl, hk', hp'⟩ F₁ N₁
    exact done c m₁ h tk hp' (by rw [kstB_self hk']; exact F₁) N₁
theorem IsBd.mono {rest rest' : List (Addr × Obj)} {v : Addr → Int × Int} {r : Addr} (h : IsBd rest v r) (hs : ∀ p ∈ rest, p ∈ rest') : IsBd rest' v r :=
  let ⟨t1, t2, n, hm⟩ := h
  ⟨t1, t2, n, hs _ hm⟩
theorem getD_mem {l : List Addr} {k : Nat} (h : k < l.length) : l.getD k 0 ∈ l := by
  have hx : l[k]? = some l[k] := by simp [h]
  have : l.getD k 0 = l[k] := by simp [List.getD, hx]
  rw [this]; exact List.getElem_mem h
theorem all_set {P : Addr → Prop} {l : List Addr} {k : Nat} {x : Addr} (h : ∀ r ∈ l, P r) (hx : P x) : ∀ r ∈ l.set k x, P r := fun r hr => by
  rcases List.mem_or_eq_of_mem_set hr with h' | h'
  · exact h r h'
  · rw [h']; exact hx

/-- siftdown, plainly -/
def sd (v : Addr → Int × Int) (st : Nat) (x : Addr) (rs : List Addr) (q : Nat) : List Addr :=
  if h : st < q then
    if ltP (v (rs.getD ((q - 1) / 2) 0)) (v x) then sd v st x (rs.set q (rs.getD ((q - 1) / 2) 0)) ((q - 1) / 2) else rs.set q x
  else rs.set q x
termination_by q
decreasing_by omega
/-- the greater child -/
def pick (v : Addr → Int × Int) (rs : List Addr) (p : Nat) : Nat := if 2 * p + 2 < rs.length ∧ ltP (v (rs.getD (2 * p + 2) 0)) (v (rs.getD (2 * p + 1) 0)) = false then 2 * p + 2 else 2 * p + 1
theorem pick_gt (v : Addr → Int × Int) (rs : List Addr) (p : Nat) : p < pick v rs p := by unfold pick; split <;> omega
theorem pick_lt {v : Addr → Int × Int} {rs : List Addr} {p : Nat} (h : 2 * p + 1 < rs.length) : pick v rs p < rs.length := by unfold pick; split <;> omega
/-- siftup's first half: the hole goes down -/
def su (v : Addr → Int × Int) (rs : List Addr) (p : Nat) : List Addr × Nat :=
  if h : 2 * p + 1 < rs.length then su v (rs.set p (rs.getD (pick v rs p) 0)) (pick v rs p) else (rs, p)
termination_by rs.length - p
decreasing_by
  have := pick_gt v rs p
  rw [List.length_set]
  omega
/-- siftup -/
def sup (v : Addr → Int × Int) (rs : List Addr) (p : Nat) : List Addr :=
  sd v p (rs.getD p 0) ((su v rs p).1.set (su v rs p).2 (rs.getD p 0)) (su v rs p).2
theorem sd_length (v : Addr → Int × Int) (st : Nat) (x : Addr) (rs : List Addr) (q : Nat) : (sd v st x rs q).length = rs.length := by
  induction q using Nat.strongRecOn generalizing rs with
  | ind q ih =>
    rw [sd.eq_def]
    split
    · split
      · rw [ih _ (by omega), List.length_set]
      · rw [List.length_set]
    · rw [List.length_set]
theorem sd_all {P : Addr → Prop} (v : Addr → Int × Int) (st : Nat) (x : Addr) (rs : List Addr) (q : Nat) (h : ∀ r ∈ rs, P r) (hx : P x) (hq : q < rs.length) : ∀ r ∈ sd v st x rs q, P r := by
  induction q using Nat.strongRecOn generalizing rs with
  | ind q ih =>
    rw [sd.eq_def]
    split
    · split
      · exact ih _ (by omega) _ (all_set h (h _ (getD_mem (by omega)))) (by rw [List.length_set]; omega)
      · exact all_set h hx
    · exact all_set h hx
theorem su_spec {P : Addr → Prop} (v : Addr → Int × Int) : ∀ (k : Nat) (rs : List Addr) (p : Nat), rs.length - p = k → p < rs.length → (∀ r ∈ rs, P r) → (su v rs p).1.length = rs.length ∧ (su v rs p).2 < rs.length ∧ ∀ r ∈ (su v rs p).1, P r := by
  intro k
  induction k using Nat.strongRecOn with
  | ind k ih =>
    intro rs p hk hp hall
    rw [su.eq_def]
    split
    · rename_i hc
      have h1 := pick_gt v rs p
      have h2 := pick_lt (v := v) hc
      have := ih (rs.length - pick v rs p) (by omega) (rs.set p (rs.getD (pick v rs p) 0)) (pick v rs p) (by rw [List.length_set]) (by rw [List.length_set]; exact h2) (all_set hall (hall _ (getD_mem h2)))
      rw [List.length_set] at this
      exact this
    · exact ⟨rfl, hp, hall⟩
theorem sup_length {v : Addr → Int × Int} {rs : List Addr} {p : Nat} (hp : p < rs.length) : (sup v rs p).length = rs.length := by
  unfold sup
  rw [sd_length, List.length_set]
  exact (su_spec (P := fun _ => True) v _ rs p rfl hp fun _ _ => trivial).1
theorem sup_all {P : Addr → Prop} {v : Addr → Int × Int} {rs : List Addr} {p : Nat} (hp : p < rs.length) (h : ∀ r ∈ rs, P r) : ∀ r ∈ sup v rs p, P r := by
  unfold sup
  have z := su_spec v _ rs p rfl hp h
  exact sd_all v _ _ _ _ (all_set z.2.2 (h _ (getD_mem hp))) (h _ (getD_mem hp)) (by rw [List.length_set, z.1]; exact z.2.1)
/-- heapify: siftup from k - 1 down to 0 -/
def hfy (v : Addr → Int × Int) : Nat → List Addr → List Addr
  | 0, rs => rs
  | k + 1, rs => hfy v k (sup v rs k)
end Mine
end

section
open PySem PySem.W PyProof.Rows
set_option Elab.async false
set_option maxRecDepth 100000
set_option maxHeartbeats 8000000
namespace Mine
theorem calmSd : True := by
  w_top off
  (try walk1)
  all_goals trivial
local macro_rules | `(tactic| walk_at "subscriptTail") => `(tactic| (k_here; (with_reducible show wpAny _ _ (subscriptTail _ _ (Value.ref _) (Value.int _ _)) _ _ _); k_dflt (refine' hp_get ?k1 ?k2 ?k3 ?k4 ?k5 ?_ ?k7 ?k8; (case k1 => k_asm); (case k2 => k_asm); (case k3 => omega); (case k4 => omega); (case k5 => omega); (case k7 => with_unfolding_all rfl); (case k8 => intro _; with_unfolding_all rfl); k_whole); intro hb'))
local macro_rules | `(tactic| walk_at "setItem ref int") => `(tactic| (k_here; (with_reducible show wpAny _ _ (setItem (Value.ref _) (Value.int _ _) (Value.ref _)) _ _ _); k_dflt (refine' hp_set ?k1 ?k2 ?k3 ?k4 ?k5 ?k6 ?_; (case k1 => k_asm); (case k2 => k_asm); (case k3 => k_asm); (case k4 => omega); (case k5 => omega); (case k6 => omega); k_whole); intro h' F' N'; (try k_sweep)))
local macro_rules | `(tactic| walk_at "compareOp Lt ref") => `(tactic| (k_here; (with_reducible show wpAny _ _ (compareOp CmpOp.Lt (Value.ref _) (Value.ref _)) _ _ _); k_dflt (refine' lt_bd ?k1 ?k2 ?k3 ?k4 ?_; (case k1 => k_asm); (case k2 => k_asm); (case k3 => k_asm); (case k4 => ktr_units); k_whole)))

local macro_rules | `(tactic| walk_at "binaryOp RShift int int") => `(tactic| (k_here; k_dflt (refine rsh1 (by omega) ?_)))
local macro_rules | `(tactic| walk_at "exec While Compare cons nil") => `(tactic| (refine Stop.out ?_))

theorem siftdown_c {w : World} {p : Program} {loose : List Str} {mean : ExcName → Option Value} {mg mb : Str → Option Value} : 
  ∀ {dp un : Nat} {gd : Option (List Code)} {cn : Str} {cs : Scope} {a : Addr} {ccd : Value} {cl : List (Str × Addr)} {outer : List Env} {A₀ : Around} {base h₀ : Heap} {L : Addr} {m : Str → Option Value} {rest : List (Addr × Obj)} {s : Shared} 
    {Q E : Value → Shared → Prop} {hp : Addr} {rs : List Addr} {n : Nat} {v : Addr → Int × Int} {st ps : Nat} {t1 t2 : Tok},
    Below A₀ base outer h₀ → Fr h₀ L s.heap m → (Mine.hd.heap_39 w.params).In h₀ → News h₀ L s.heap ((hp, heapOf rs n) :: rest) → Top p loose mean mg mb h₀ → cs.kind = .function → dp + 5 < recursionLimit → un + 100 < cLine →
    (∀ p ∈ rest, p.1 ≠ hp) → (∀ r ∈ rs, IsBd rest v r) → ps < rs.length → rs.length < 100 →
    (∀ h' tk', Fr h₀ L h' m → News h₀ L h' ((hp, heapOf (sd v st (rs.getD ps 0) rs ps) n) :: rest) → Q .none { s with heap := h', toks := tk' }) →
    wpAny (model PySem.Challenge.rw_op0091_01.row.prog w) (ktrTop dp un gd cn cs L a ccd cl outer) (call (.ref 42) [.ref hp, .int st t1, .int ps t2]) Q E s := by
  k_fill
  intro dp un gd cn cs a ccd cl outer A₀ base h₀ L m rest s Q E hp rs n v st ps t1 t2 B F X N T hk hd hu hrest hall hpl hlen hQ
  refine wpAny_call ?_
  k_dflt ktr_enter
  refine wpAny_noRaise ?_
  k_steps
  rename Fr _ _ _ _ => F1
  rename News _ _ _ _ => N1
  simp only [Int.toNat_natCast] at F1
  refine ⟨?_⟩
  refine wh (σ := Nat × List Addr × Tok) (fun c => (hp, heapOf c.2.1 n) :: rest) (fun c => [(Str.ofString "heap", .ref hp), (Str.ofString "startpos", .int st t1), (Str.ofString "pos", .int c.1 c.2.2), (Str.ofString "newitem", .ref (rs.getD ps 0))])
    (fun c => c.1 < c.2.1.length ∧ c.2.1.length = rs.length ∧ (∀ r ∈ c.2.1, IsBd rest v r) ∧ sd v st (rs.getD ps 0) c.2.1 c.1 = sd v st (rs.getD ps 0) rs ps)
    (fun c => c.1 < c.2.1.length ∧ c.2.1.length = rs.length ∧ c.2.1.set c.1 (rs.getD ps 0) = sd v st (rs.getD ps 0) rs ps) (fun c => c.1) (ps, rs, t2) F1 N1 (fun _ h => h) ?hk ⟨hpl, rfl, hall, rfl⟩ ?turn ?done PassesOwn.never
  case hk =>
    intro p hp
    simp only [List.mem_cons, List.not_mem_nil, or_false] at hp
    rcases hp with rfl | rfl | rfl | rfl <;> with_unfolding_all rfl
  case turn =>
    rintro ⟨q, rs', tq⟩ u h2 tk2 ⟨i2, i3, i4, i5⟩ F2 N2
    dsimp only at i2 i3 i4 i5 F2 N2
    clear F1 N1
    k_steps
    refine WIf.of (fun hb => ?_) (fun hb => ?_)
    · have hb : st < q := by simpa using hb
      k_steps
      · rename (ltP _ _ = true) => hlt
        rename News _ _ _ _ => N3
        simp only [Int.toNat_natCast] at hlt N3
        refine WEnd.mk ((q - 1) / 2, rs'.set q (rs'.getD ((q - 1) / 2) 0), ?tk) (by assumption) (by assumption) (fun _ h => h) ?hk ?hp
        case hk =>
          intro p hp
          simp only [List.mem_cons, List.not_mem_nil, or_false] at hp
          rcases hp with rfl | rfl | rfl | rfl <;> with_unfolding_all rfl
        case hp =>
          refine ⟨⟨?_, ?_, ?_, ?_⟩, ?_⟩
          · dsimp only; rw [List.length_set]; omega
          · dsimp only; rw [List.length_set]; exact i3
          · exact all_set i4 (i4 _ (getD_mem (by omega)))
          · dsimp only
            rw [← i5, sd.eq_def v st _ rs' q, dif_pos hb, if_pos hlt]
          · dsimp only; omega
      · rename (ltP _ _ = false) => hlt
        simp only [Int.toNat_natCast] at hlt
        refine WEnd.mk (q, rs', tq) (by assumption) (by assumption) (fun _ h => h) ?hk ?hp
        case hk =>
          intro p hp
          simp only [List.mem_cons, List.not_mem_nil, or_false] at hp
          rcases hp with rfl | rfl | rfl | rfl <;> with_unfolding_all rfl
        case hp =>
          refine ⟨i2, i3, ?_⟩
          dsimp only
          rw [← i5, sd.eq_def v st _ rs' q, dif_pos hb, if_neg (by rw [hlt]; exact Bool.false_ne_true)]
    · have hb : ¬ st < q := by simpa using hb
      refine ⟨(q, rs', tq), h2, tk2, _, _, rfl, F2, N2, fun _ h => h, ?_, i2, i3, ?_⟩
      · intro p hp
        simp only [List.mem_cons, List.not_mem_nil, or_false] at hp
        rcases hp with rfl | rfl | rfl | rfl <;> with_unfolding_all rfl
      · rw [← i5, sd, dif_neg hb]
  case done =>
    rintro ⟨q, rs', tq⟩ u h2 tk2 ⟨i2, i3, i5⟩ F2 N2
    dsimp only at i2 i3 i5 F2 N2
    clear F1 N1
    dsimp only
    k_steps
    have e : (↑q : Int).toNat = q := by omega
    refine hQ _ _ (by assumption) ?_
    rw [← i5, ← e]
    assumption
end Mine
end

section
open PySem PySem.W PyProof.Rows
set_option Elab.async false
set_option maxRecDepth 100000
set_option maxHeartbeats 8000000
namespace Mine
theorem calmSu : True := by
  w_top off
  (try walk1)
  all_goals trivial
local macro_rules | `(tactic| walk_at "subscriptTail") => `(tactic| (k_here; (with_reducible show wpAny _ _ (subscriptTail _ _ (Value.ref _) (Value.int _ _)) _ _ _); k_dflt (refine' hp_get ?k1 ?k2 ?k3 ?k4 ?k5 ?_ ?k7 ?k8; (case k1 => k_asm); (case k2 => k_asm); (case k3 => omega); (case k4 => omega); (case k5 => omega); (case k7 => with_unfolding_all rfl); (case k8 => intro _; with_unfolding_all rfl); k_whole); intro hb'))
local macro_rules | `(tactic| walk_at "setItem ref int") => `(tactic| (k_here; (with_reducible show wpAny _ _ (setItem (Value.ref _) (Value.int _ _) (Value.ref _)) _ _ _); k_dflt (refine' hp_set ?k1 ?k2 ?k3 ?k4 ?k5 ?k6 ?_; (case k1 => k_asm); (case k2 => k_asm); (case k3 => k_asm); (case k4 => omega); (case k5 => omega); (case k6 => omega); k_whole); intro h' F' N'; (try k_sweep)))
local macro_rules | `(tactic| walk_at "compareOp Lt ref") => `(tactic| (k_here; (with_reducible show wpAny _ _ (compareOp CmpOp.Lt (Value.ref _) (Value.ref _)) _ _ _); k_dflt (refine' lt_bd ?k1 ?k2 ?k3 ?k4 ?_; (case k1 => k_asm); (case k2 => k_asm); (case k3 => k_asm); (case k4 => ktr_units); k_whole)))

local macro_rules | `(tactic| walk_at "binaryOp RShift int int") => `(tactic| (k_here; k_dflt (refine rsh1 (by omega) ?_)))
local macro_rules | `(tactic| walk_at "exec While Compare cons nil") => `(tactic| (refine Stop.out ?_))


local macro_rules | `(tactic| walk_at "call builtin:len") => `(tactic| (k_here; (with_reducible show wpAny _ _ (call (Value.builtin "len") [Value.ref _]) _ _ _); k_dflt (refine' hp_len ?k1 ?k2 ?_; (case k1 => k_asm); (case k2 => omega); k_whole)))
local macro_rules | `(tactic| walk_at "call ref") => `(tactic| (k_here; (with_reducible show wpAny _ _ (call (Value.ref 42) _) _ _ _); refine Stop.out ?_))

theorem siftup_c {w : World} {p : Program} {loose : List Str} {mean : ExcName → Option Value} {mg mb : Str → Option Value} : 
  ∀ {dp un : Nat} {gd : Option (List Code)} {cn : Str} {cs : Scope} {a : Addr} {ccd : Value} {cl : List (Str × Addr)} {outer : List Env} {A₀ : Around} {base h₀ : Heap} {L : Addr} {m : Str → Option Value} {rest : List (Addr × Obj)} {s : Shared} 
    {Q E : Value → Shared → Prop} {hp : Addr} {rs : List Addr} {n : Nat} {v : Addr → Int × Int} {ps : Nat} {t2 : Tok},
    Below A₀ base outer h₀ → Fr h₀ L s.heap m → (Mine.hd.heap_39 w.params).In h₀ → News h₀ L s.heap ((hp, heapOf rs n) :: rest) → Top p loose mean mg mb h₀ → cs.kind = .function → dp + 10 < recursionLimit → un + 120 < cLine →
    (∀ p ∈ rest, p.1 ≠ hp) → (∀ r ∈ rs, IsBd rest v r) → ps < rs.length → rs.length < 100 →
    (∀ h' tk', Fr h₀ L h' m → News h₀ L h' ((hp, heapOf (sup v rs ps) n) :: rest) → Q .none { s with heap := h', toks := tk' }) →
    wpAny (model PySem.Challenge.rw_op0091_01.row.prog w) (ktrTop dp un gd cn cs L a ccd cl outer) (call (.ref 49) [.ref hp, .int ps t2]) Q E s := by
  k_fill
  intro dp un gd cn cs a ccd cl outer A₀ base h₀ L m rest s Q E hp rs n v ps t2 B F X N T hk hd hu hrest hall hpl hlen hQ
  refine wpAny_call ?_
  k_dflt ktr_enter
  refine wpAny_noRaise ?_
  k_steps
  refine ⟨?_⟩
  rename Fr _ _ _ _ => F1
  rename News _ _ _ _ => N1
  simp only [Int.toNat_natCast] at F1
  refine wh (σ := Nat × List Addr × Tok × Tok × Tok) (fun c => (hp, heapOf c.2.1 n) :: rest)
    (fun c => [(Str.ofString "heap", .ref hp), (Str.ofString "endpos", .int rs.length c.2.2.1), (Str.ofString "startpos", .int ps t2), (Str.ofString "newitem", .ref (rs.getD ps 0)), (Str.ofString "pos", .int c.1 c.2.2.2.1), (Str.ofString "childpos", .int (2 * (c.1 : Int) + 1) c.2.2.2.2)])
    (fun c => c.1 < c.2.1.length ∧ c.2.1.length = rs.length ∧ (∀ r ∈ c.2.1, IsBd rest v r) ∧ su v c.2.1 c.1 = su v rs ps)
    (fun c => c.1 < c.2.1.length ∧ c.2.1.length = rs.length ∧ (∀ r ∈ c.2.1, IsBd rest v r) ∧ su v rs ps = (c.2.1, c.1)) (fun c => rs.length - c.1) (ps, rs, ?e1, ?e2, ?e3) F1 N1 (fun _ h => h) ?hk ⟨hpl, rfl, hall, rfl⟩ ?turn ?done PassesOwn.never
  case hk =>
    intro p hp
    simp only [List.mem_cons, List.not_mem_nil, or_false] at hp
    rcases hp with rfl | rfl | rfl | rfl | rfl | rfl <;> with_unfolding_all rfl
  case turn =>
    rintro ⟨q, rs', te, tq, tc⟩ u h2 tk2 ⟨i2, i3, i4, i5⟩ F2 N2
    dsimp only at i2 i3 i4 i5 F2 N2
    clear F1 N1
    k_steps
    refine WIf.of (fun hb => ?_) (fun hb => ?_)
    · have hb : 2 * (q : Int) + 1 < rs.length := by simpa using hb
      k_steps
      · rename (ltP _ _ = true) => hlt
        skip
        rename News _ _ _ _ => N3
        have e1 : (2 * (q : Int) + 1).toNat = 2 * q + 1 := by omega
        have e2 : (2 * (q : Int) + 1 + 1).toNat = 2 * q + 2 := by omega
        simp only [Int.toNat_natCast, e1, e2] at N3
        have hpick : pick v rs' q = 2 * q + 1 := by
          unfold pick
          rw [if_neg (fun hh => ?_)]
          have hh2 := hh.2
          simp only [e1, e2] at hlt
          rw [hlt] at hh2; cases hh2
        refine WEnd.mk (2 * q + 1, rs'.set q (rs'.getD (2 * q + 1) 0), te, ?a1, ?a2) (by assumption) N3 (fun _ h => h) ?hk ?hp
        case hk =>
          intro p hp
          simp only [List.mem_cons, List.not_mem_nil, or_false] at hp
          rcases hp with rfl | rfl | rfl | rfl | rfl | rfl <;> with_unfolding_all rfl
        case hp =>
          refine ⟨⟨?_, ?_, ?_, ?_⟩, ?_⟩
          · dsimp only; rw [List.length_set]; omega
          · dsimp only; rw [List.length_set]; exact i3
          · exact all_set i4 (i4 _ (getD_mem (by omega)))
          · dsimp only
            rw [← i5, su.eq_def v rs' q, dif_pos (by omega), hpick]
          · dsimp only; omega
      · rename (ltP _ _ = false) => hlt
        rename (2 * (q : Int) + 1 + 1 < _) => hr
        rename News _ _ _ _ => N3
        have e1 : (2 * (q : Int) + 1).toNat = 2 * q + 1 := by omega
        have e2 : (2 * (q : Int) + 1 + 1).toNat = 2 * q + 2 := by omega
        simp only [Int.toNat_natCast, e1, e2] at N3
        have hpick : pick v rs' q = 2 * q + 2 := by
          unfold pick
          simp only [e1, e2] at hlt
          rw [if_pos ⟨by omega, hlt⟩]
        refine WEnd.mk (2 * q + 2, rs'.set q (rs'.getD (2 * q + 2) 0), te, ?b1, ?b2) (by assumption) N3 (fun _ h => h) ?hk ?hp
        case hk =>
          intro p hp
          simp only [List.mem_cons, List.not_mem_nil, or_false] at hp
          rcases hp with rfl | rfl | rfl | rfl | rfl | rfl <;> with_unfolding_all rfl
        case hp =>
          refine ⟨⟨?_, ?_, ?_, ?_⟩, ?_⟩
          · dsimp only; rw [List.length_set]; omega
          · dsimp only; rw [List.length_set]; exact i3
          · exact all_set i4 (i4 _ (getD_mem (by omega)))
          · dsimp only
            rw [← i5, su.eq_def v rs' q, dif_pos (by omega), hpick]
          · dsimp only; omega
      · rename (¬ 2 * (q : Int) + 1 + 1 < _) => hr
        rename News _ _ _ _ => N3
        have e1 : (2 * (q : Int) + 1).toNat = 2 * q + 1 := by omega
        have e2 : (2 * (q : Int) + 1 + 1).toNat = 2 * q + 2 := by omega
        simp only [Int.toNat_natCast, e1, e2] at N3
        have hpick : pick v rs' q = 2 * q + 1 := by
          unfold pick
          rw [if_neg (fun hh => ?_)]
          have hh1 := hh.1
          omega
        refine WEnd.mk (2 * q + 1, rs'.set q (rs'.getD (2 * q + 1) 0), te, ?c1, ?c2) (by assumption) N3 (fun _ h => h) ?hk ?hp
        case hk =>
          intro p hp
          simp only [List.mem_cons, List.not_mem_nil, or_false] at hp
          rcases hp with rfl | rfl | rfl | rfl | rfl | rfl <;> with_unfolding_all rfl
        case hp =>
          refine ⟨⟨?_, ?_, ?_, ?_⟩, ?_⟩
          · dsimp only; rw [List.length_set]; omega
          · dsimp only; rw [List.length_set]; exact i3
          · exact all_set i4 (i4 _ (getD_mem (by omega)))
          · dsimp only
            rw [← i5, su.eq_def v rs' q, dif_pos (by omega), hpick]
          · dsimp only; omega
    · have hb : ¬ 2 * (q : Int) + 1 < rs.length := by simpa using hb
      refine ⟨(q, rs', te, tq, tc), h2, tk2, _, _, rfl, F2, N2, fun _ h => h, ?_, i2, i3, i4, ?_⟩
      · intro p hp
        simp only [List.mem_cons, List.not_mem_nil, or_false] at hp
        rcases hp with rfl | rfl | rfl | rfl | rfl | rfl <;> with_unfolding_all rfl
      · rw [← i5, su, dif_neg (by omega)]
  case done =>
    rintro ⟨q, rs', te, tq, tc⟩ u h2 tk2 ⟨i2, i3, i4, i5⟩ F2 N2
    dsimp only at i2 i3 i4 i5 F2 N2
    clear F1 N1
    dsimp only
    k_steps
    refine ⟨?_⟩
    rename News _ _ _ _ => N3
    simp only [Int.toNat_natCast] at N3
    k_dflt (refine' siftdown_c (v := v) ?k1 ?k2 ?k3 N3 ?k5 ?k6 ?k7 ?k8 hrest ?k9 ?k10 ?k11 ?_)
    case k1 => k_asm
    case k2 => k_asm
    case k3 => k_asm
    case k5 => k_asm
    case k6 => rfl
    case k7 => show dp + 1 + 5 < recursionLimit; omega
    case k8 => show un + 3 + 100 < cLine; omega
    case k9 => exact all_set i4 (hall _ (getD_mem hpl))
    case k10 => rw [List.length_set]; exact i2
    case k11 => rw [List.length_set]; omega
    intro h3 tk3 F3 N4
    k_steps
    refine hQ _ _ (by assumption) ?_
    have e1 : (rs'.set q (rs.getD ps 0)).getD q 0 = rs.getD ps 0 := by simp [List.getD, i2]
    have e2 : sup v rs ps = sd v ps (rs.getD ps 0) (rs'.set q (rs.getD ps 0)) q := by unfold sup; rw [i5]
    rename News _ _ _ _ => kN
    rw [e1] at kN
    rw [e2]
    exact kN
end Mine
end

section
open PySem PySem.W PyProof.Rows
set_option Elab.async false
set_option maxRecDepth 100000
namespace Mine
section
variable {prog : Program} {w : World} {A : Around} {E : Value → Shared → Prop} {s : Shared}
theorem rr_size (k : Nat) : Builtin.Range.rangeSize 0 (k : Int) 1 = k := by
  unfold Builtin.Range.rangeSize
  rw [if_pos (by decide)]
  split <;> omega
theorem rr_small {k : Nat} (hk : k < 1000) : (Builtin.Range.rangeFitsLong 0 && Builtin.Range.rangeFitsLong (k : Int) && Builtin.Range.rangeFitsLong 1 && Builtin.Range.rangeFitsLong (-1) && Builtin.Range.rangeFitsLong (0 - 1) && Builtin.Range.rangeFitsLong (Builtin.Range.rangeSize 0 (k : Int) 1)) = true := by
  rw [rr_size]
  simp only [Builtin.Range.rangeFitsLong, Bool.and_eq_true, decide_eq_true_eq]
  omega
theorem rr_meets (r : Addr) (a b c : Int) (t u v : Tok) (hc0 : ¬ (!(Builtin.Range.rangeFitsLong a && Builtin.Range.rangeFitsLong b && Builtin.Range.rangeFitsLong c && Builtin.Range.rangeFitsLong (-c) && Builtin.Range.rangeFitsLong (a - c) && Builtin.Range.rangeFitsLong (Builtin.Range.rangeSize a b c))) = true) :
    Meets (Builtin.«range.__reversed__» ⟨[.ref r], []⟩) (fun _ R s => s.heap.get? r = some { cls := .type "range", dict := none, data := .fields #[.int a t, .int b u, .int c v], slots := #[] } ∧ R (.ok (.ret (Value.ref s.heap.objs.size))) { s with heap := s.heap.push { cls := Value.type (if (Builtin.Range.rangeFitsLong a && Builtin.Range.rangeFitsLong b && Builtin.Range.rangeFitsLong c && Builtin.Range.rangeFitsLong (-c) && Builtin.Range.rangeFitsLong (a - c) && Builtin.Range.rangeFitsLong (Builtin.Range.rangeSize a b c)) = true then "range_iterator" else "longrange_iterator"), data := .fields #[rawInt (a + (Builtin.Range.rangeSize a b c - 1) * c), rawInt (Builtin.Range.rangeSize a b c), rawInt (-c)] } }) :=
  .of_wp fun prog w A R s h => by
    obtain ⟨hp, g, d, tk, os⟩ := s; obtain ⟨hl, h⟩ := h
    wp_walk
    exact ⟨_, rfl, h⟩
theorem sub_ri_reversed : isSubtype (.type "range_iterator") (.type "reversed") = pure false := by rw [isSubtype_type]; kernel_rfl
abbrev rrIter (k : Nat) : Obj := { cls := .type "range_iterator", data := .fields #[rawInt ((k : Int) - 1), rawInt (k : Int), rawInt (-1)] }
theorem call_range_reversed {r : Addr} {k : Nat} {t u v : Tok} {Q : Value → Shared → Prop} (hk : k < 1000) (hr : IsRange s.heap r 0 (k : Int) 1 t u v)
    (h : Q (.ref s.heap.objs.size) { s with heap := s.heap.push (rrIter k) }) : wpAny (model prog w) A (call (.builtin "range.__reversed__") [.ref r]) Q E s := by
  have hT : s.TypeIs (.ref r) "range" := ⟨_, hr, rfl⟩
  refine call_meets F.slot_range_reversed hT F.entry_range_reversed (F.args_range_reversed_1 _) (rr_meets r 0 k 1 t u v (by rw [rr_small hk]; decide)) ⟨hr, ?_⟩
  rw [rr_small hk, rr_size]
  have e : (0 : Int) + ((k : Int) - 1) * 1 = (k : Int) - 1 := by omega
  rw [e]
  exact h
theorem code_range_reversed_new {r : Addr} {k : Nat} {t u v : Tok} {Q₁ : Value → Shared → Prop} (hk : k < 1000) (hr : IsRange s.heap r 0 (k : Int) 1 t u v)
    (h : Q₁ (.ref s.heap.objs.size) { s with heap := s.heap.push (rrIter k) }) :
    codeAny (model prog w) A (.call (.builtin "reversed.__new__") ⟨[.type "reversed", .ref r], []⟩) (wants Q₁ E) s := by
  have hT : s.TypeIs (.ref r) "range" := ⟨_, hr, rfl⟩
  refine codeAny_of_tree ?_
  show wpAny _ A.in1 (do checkBuiltinCall "reversed.__new__" ⟨[.type "reversed", .ref r], []⟩; again (.builtin "reversed.__new__" ⟨[.type "reversed", .ref r], []⟩)) _ _ s
  refine wpAny_bind (wpAny_of_eq (F.newCall_reversed_1 _) (wpAny_pure ⟨plainId_quiet F.plain_reversed_new _, codeAny_builtin F.entry_reversed_new ?_⟩))
  rw [Around.under_plainId F.plain_reversed_new _]
  unfold Builtin.«reversed.__new__»
  refine wpAny_bind (wpAny_of_eq (newClass_reversed _) ?_)
  try dsimp only
  refine wpAny_bind (wpAny_of_eq (a := ()) (by first | rfl | kernel_rfl) ?_)
  refine wpAny_bind (wpAny_of_eq (a := ()) (by first | rfl | kernel_rfl) ?_)
  try dsimp only
  refine wpAny_bind (wpAny_specialOf hT F.slot_range_reversed.lookup ?_)
  try dsimp only
  refine wpAny_bind (wpAny_of_eq (F.slot_range_reversed.bind _) ?_)
  try dsimp only
  first
  | rw [if_neg (show ¬ ((Value.builtin "range.__reversed__" == Value.none) = true) from Bool.false_ne_true)]
  | (show wpAny _ _ (if (Value.builtin "range.__reversed__" == Value.none) = true then _ else _) _ _ _; rw [if_neg (show ¬ ((Value.builtin "range.__reversed__" == Value.none) = true) from Bool.false_ne_true)])
  refine wpAny_bind (wpAny_rule ?_)
  refine wpAny_bind (m := runValue (.call (.builtin "range.__reversed__") ⟨[.ref r], []⟩)) (show wpAny _ _ (call (.builtin "range.__reversed__") [.ref r]) _ _ _ from call_range_reversed hk hr ?_)
  first
  | exact wpAny_pure h
  | exact wpAny_bind (wpAny_pure (wpAny_pure h))
theorem call_reversed_range {r : Addr} {k : Nat} {t u v : Tok} {Q : Value → Shared → Prop} (hk : k < 1000) (hr : IsRange s.heap r 0 (k : Int) 1 t u v)
    (h : Q (.ref s.heap.objs.size) { s with heap := s.heap.push (rrIter k) }) : wpAny (model prog w) A (call (.type "reversed") [.ref r]) Q E s := by
  refine callType_other (U := "range_iterator") (Q₁ := fun obj s₁ => obj = .ref s.heap.objs.size ∧ s₁ = { s with heap := s.heap.push (rrIter k) }) (by decide +kernel) F.create_reversed ⟨_, _, F.mro_reversed⟩ F.made_reversed sub_ri_reversed (F.typeCall_reversed_1 _) (code_range_reversed_new hk hr ⟨rfl, rfl⟩) ?_
  rintro obj s₁ ⟨rfl, rfl⟩
  exact ⟨⟨_, Heap.get?_push_size _ rfl, rfl⟩, h⟩
end
end Mine
end

section
open PySem PySem.W PyProof.Rows
set_option Elab.async false
set_option maxRecDepth 100000
set_option maxHeartbeats 8000000
namespace Mine
theorem calmHfy : True := by
  w_top off
  (try walk1)
  all_goals trivial
local macro_rules | `(tactic| walk_at "subscriptTail") => `(tactic| (k_here; (with_reducible show wpAny _ _ (subscriptTail _ _ (Value.ref _) (Value.int _ _)) _ _ _); k_dflt (refine' hp_get ?k1 ?k2 ?k3 ?k4 ?k5 ?_ ?k7 ?k8; (case k1 => k_asm); (case k2 => k_asm); (case k3 => omega); (case k4 => omega); (case k5 => omega); (case k7 => with_unfolding_all rfl); (case k8 => intro _; with_unfolding_all rfl); k_whole); intro hb'))
local macro_rules | `(tactic| walk_at "setItem ref int") => `(tactic| (k_here; (with_reducible show wpAny _ _ (setItem (Value.ref _) (Value.int _ _) (Value.ref _)) _ _ _); k_dflt (refine' hp_set ?k1 ?k2 ?k3 ?k4 ?k5 ?k6 ?_; (case k1 => k_asm); (case k2 => k_asm); (case k3 => k_asm); (case k4 => omega); (case k5 => omega); (case k6 => omega); k_whole); intro h' F' N'; (try k_sweep)))
local macro_rules | `(tactic| walk_at "compareOp Lt ref") => `(tactic| (k_here; (with_reducible show wpAny _ _ (compareOp CmpOp.Lt (Value.ref _) (Value.ref _)) _ _ _); k_dflt (refine' lt_bd ?k1 ?k2 ?k3 ?k4 ?_; (case k1 => k_asm); (case k2 => k_asm); (case k3 => k_asm); (case k4 => ktr_units); k_whole)))

local macro_rules | `(tactic| walk_at "binaryOp RShift int int") => `(tactic| (k_here; k_dflt (refine rsh1 (by omega) ?_)))
local macro_rules | `(tactic| walk_at "exec While Compare cons nil") => `(tactic| (refine Stop.out ?_))


local macro_rules | `(tactic| walk_at "call builtin:len") => `(tactic| (k_here; (with_reducible show wpAny _ _ (call (Value.builtin "len") [Value.ref _]) _ _ _); k_dflt (refine' hp_len ?k1 ?k2 ?_; (case k1 => k_asm); (case k2 => omega); k_whole)))
local macro_rules | `(tactic| walk_at "call ref") => `(tactic| (k_here; (with_reducible show wpAny _ _ (call (Value.ref 49) _) _ _ _); refine Stop.out ?_))


theorem heapify_c {w : World} {p : Program} {loose : List Str} {mean : ExcName → Option Value} {mg mb : Str → Option Value} : 
  ∀ {dp un : Nat} {gd : Option (List Code)} {cn : Str} {cs : Scope} {a : Addr} {ccd : Value} {cl : List (Str × Addr)} {outer : List Env} {A₀ : Around} {base h₀ : Heap} {L : Addr} {m : Str → Option Value} {rest : List (Addr × Obj)} {s : Shared} 
    {Q E : Value → Shared → Prop} {hp : Addr} {rs : List Addr} {n : Nat} {v : Addr → Int × Int},
    Below A₀ base outer h₀ → Fr h₀ L s.heap m → (Mine.hd.heap_39 w.params).In h₀ → News h₀ L s.heap ((hp, heapOf rs n) :: rest) → Top p loose mean mg mb h₀ → cs.kind = .function → dp + 20 < recursionLimit → un + 140 < cLine →
    (∀ p ∈ rest, p.1 ≠ hp) → (∀ r ∈ rs, IsBd rest v r) → rs.length < 100 →
    (∀ h' tk', Fr h₀ L h' m → News h₀ L h' ((hp, heapOf (hfy v (rs.length / 2) rs) n) :: rest) → Q .none { s with heap := h', toks := tk' }) →
    wpAny (model PySem.Challenge.rw_op0091_01.row.prog w) (ktrTop dp un gd cn cs L a ccd cl outer) (call (.ref 35) [.ref hp]) Q E s := by
  k_fill
  intro dp un gd cn cs a ccd cl outer A₀ base h₀ L m rest s Q E hp rs n v B F X N T hk hd hu hrest hall hlen hQ
  refine wpAny_call ?_
  k_dflt ktr_enter
  refine wpAny_noRaise ?_
  k_steps
  rename (∀ b o, _ → _) => hkeep
  rename News _ _ _ _ => N1
  rename Fr _ _ _ _ => F1
  rename IsRange _ _ _ _ _ _ _ _ => hrg
  have ek : ((rs.length : Int)).fdiv 2 = ((rs.length / 2 : Nat) : Int) := by rw [Int.fdiv_eq_ediv_of_nonneg _ (by decide)]; omega
  rw [ek] at hrg
  refine call_reversed_range (by omega) hrg ?_
  refine wpAny_pyIter_rangeiter (Heap.get?_push_size _ rfl) ?_
  have hI : ∀ q ∈ (hp, heapOf rs n) :: rest, q.1 ∉ [_] := fun q hq hm => absurd (Heap.lt_size (N1 q hq).1) ((List.mem_singleton.mp hm) ▸ Nat.lt_irrefl _)
  refine fw (σ := List Addr) (fun c => (hp, heapOf c n) :: rest) (fun _ => [(Str.ofString "x", .ref hp)])
    (fun i c => c.length = rs.length ∧ (∀ r ∈ c, IsBd rest v r) ∧ hfy v (rs.length / 2 - i) c = hfy v (rs.length / 2) rs) rs
    (Walks.range rfl _ ((rs.length / 2 : Nat) - 1 : Int) (-1) (rs.length / 2)) (fun _ => rfl) ?hLf ?hwr hI ?hst (F1.push _) (fun p hp => ⟨Heap.get?_push_of_some _ (N1 p hp).1, (N1 p hp).2⟩) (fun _ h => h) ?hk ⟨rfl, hall, rfl⟩ ?turn ?done
  case hLf => exact fun hm => absurd F1.ns.lt ((List.mem_singleton.mp hm) ▸ Nat.lt_irrefl _)
  case hwr => intro b hb; rw [List.mem_singleton.mp hb]; exact next_is_new F1
  case hst =>
    show IsRangeIter _ _ _ _ _
    have e1 : ((rs.length / 2 : Nat) - 1 : Int) + ((0 : Nat) : Int) * -1 = (rs.length / 2 : Nat) - 1 := by omega
    have e2 : ((rs.length / 2 : Nat) : Int) - ((0 : Nat) : Int) = (rs.length / 2 : Nat) := by omega
    rw [e1, e2]
    exact Heap.get?_push_size _ rfl
  case hk =>
    intro p hp
    simp only [List.mem_cons, List.not_mem_nil, or_false] at hp
    rcases hp with rfl
    with_unfolding_all rfl
  case turn =>
    rintro i rs' vv u h2 tk2 own hi ⟨ti, rfl⟩ hoff ⟨i2, i3, i4⟩ F2 N2
    have ei : ((rs.length / 2 : Nat) - 1 : Int) + (i : Int) * -1 = ((rs.length / 2 - 1 - i : Nat) : Int) := by omega
    rw [ei] at F2
    clear F1 N1 hkeep hrg
    k_steps
    refine ⟨?_⟩
    k_dflt (refine' siftup_c (v := v) (rest := rest ++ own) (n := n) (rs := rs') ?k1 ?k2 ?k3 N2 ?k5 ?k6 ?k7 ?k8 ?kr ?k9 ?k10 ?k11 ?_)
    case k1 => k_asm
    case k2 => k_asm
    case k3 => k_asm
    case k5 => k_asm
    case k6 => rfl
    case k7 => show dp + 1 + 10 < recursionLimit; omega
    case k8 => show un + 3 + 120 < cLine; omega
    case kr =>
      intro p hp
      rcases List.mem_append.mp hp with h | h
      · exact hrest p h
      · exact hoff p h _ (.head _)
    case k9 => exact fun r hr => (i3 r hr).mono fun p hp => List.mem_append_left _ hp
    case k10 => omega
    case k11 => omega
    intro h3 tk3 F3 N3
    k_steps
    refine FEnd.mk (sup v rs' (rs.length / 2 - 1 - i)) F3 N3 ?hn ?ho ?hk ?hp
    case hn =>
      intro p hp
      rcases List.mem_cons.mp hp with rfl | hp
      · exact .head _
      · exact .tail _ (List.mem_append_left _ hp)
    case ho => exact fun p hp => .tail _ (List.mem_append_right _ hp)
    case hk =>
      intro p hp
      simp only [List.mem_cons, List.not_mem_nil, or_false] at hp
      rcases hp with rfl
      with_unfolding_all rfl
    case hp =>
      refine ⟨?_, ?_, ?_⟩
      · rw [sup_length (by omega)]; exact i2
      · exact sup_all (by omega) i3
      · rw [← i4]
        have e : rs.length / 2 - i = (rs.length / 2 - 1 - i) + 1 := by omega
        have e' : rs.length / 2 - (i + 1) = rs.length / 2 - 1 - i := by omega
        rw [e, e', hfy]
  case done =>
    rintro rs' u h2 tk2 ⟨i2, i3, i4⟩ F2 N2
    clear F1 N1 hkeep hrg
    dsimp only
    k_steps
    refine hQ _ _ (by assumption) ?_
    rw [← i4, Nat.sub_self]
    assumption
end Mine
end

section
open PySem PySem.W PyProof.Rows
set_option Elab.async false
set_option maxRecDepth 100000
set_option maxHeartbeats 8000000
namespace Mine
theorem calmHrp : True := by
  w_top off
  (try walk1)
  all_goals trivial
local macro_rules | `(tactic| walk_at "subscriptTail") => `(tactic| (k_here; (with_reducible show wpAny _ _ (subscriptTail _ _ (Value.ref _) (Value.int _ _)) _ _ _); k_dflt (refine' hp_get ?k1 ?k2 ?k3 ?k4 ?k5 ?_ ?k7 ?k8; (case k1 => k_asm); (case k2 => k_asm); (case k3 => omega); (case k4 => omega); (case k5 => omega); (case k7 => with_unfolding_all rfl); (case k8 => intro _; with_unfolding_all rfl); k_whole); intro hb'))
local macro_rules | `(tactic| walk_at "setItem ref int") => `(tactic| (k_here; (with_reducible show wpAny _ _ (setItem (Value.ref _) (Value.int _ _) (Value.ref _)) _ _ _); k_dflt (refine' hp_set ?k1 ?k2 ?k3 ?k4 ?k5 ?k6 ?_; (case k1 => k_asm); (case k2 => k_asm); (case k3 => k_asm); (case k4 => omega); (case k5 => omega); (case k6 => omega); k_whole); intro h' F' N'; (try k_sweep)))
local macro_rules | `(tactic| walk_at "compareOp Lt ref") => `(tactic| (k_here; (with_reducible show wpAny _ _ (compareOp CmpOp.Lt (Value.ref _) (Value.ref _)) _ _ _); k_dflt (refine' lt_bd ?k1 ?k2 ?k3 ?k4 ?_; (case k1 => k_asm); (case k2 => k_asm); (case k3 => k_asm); (case k4 => ktr_units); k_whole)))

local macro_rules | `(tactic| walk_at "binaryOp RShift int int") => `(tactic| (k_here; k_dflt (refine rsh1 (by omega) ?_)))
local macro_rules | `(tactic| walk_at "exec While Compare cons nil") => `(tactic| (refine Stop.out ?_))


local macro_rules | `(tactic| walk_at "call builtin:len") => `(tactic| (k_here; (with_reducible show wpAny _ _ (call (Value.builtin "len") [Value.ref _]) _ _ _); k_dflt (refine' hp_len ?k1 ?k2 ?_; (case k1 => k_asm); (case k2 => omega); k_whole)))
local macro_rules | `(tactic| walk_at "call ref") => `(tactic| (k_here; (with_reducible show wpAny _ _ (call (Value.ref 49) _) _ _ _); refine Stop.out ?_))


local macro_rules | `(tactic| walk_at "call builtin:list.pop") => `(tactic| (k_here; (with_reducible show wpAny _ _ (call (Value.builtin _) [Value.ref _]) _ _ _); k_dflt (refine' hp_pop ?k1 ?k2 ?k3 ?k4 ?_; (case k1 => k_asm); (case k2 => k_asm); (case k3 => k_asm); (case k4 => omega); k_whole); intro h' F' N'; (try k_sweep)))
local macro_rules | `(tactic| walk_at "truthy ref") => `(tactic| (k_here; k_dflt (refine' hp_truthy ?k1 ?k2 ?_; (case k1 => k_asm); (case k2 => omega); k_whole)))

theorem heapreplace_c {w : World} {p : Program} {loose : List Str} {mean : ExcName → Option Value} {mg mb : Str → Option Value} : 
  ∀ {dp un : Nat} {gd : Option (List Code)} {cn : Str} {cs : Scope} {a : Addr} {ccd : Value} {cl : List (Str × Addr)} {outer : List Env} {A₀ : Around} {base h₀ : Heap} {L : Addr} {m : Str → Option Value} {rest : List (Addr × Obj)} {s : Shared} 
    {Q E : Value → Shared → Prop} {hp : Addr} {rs : List Addr} {n : Nat} {v : Addr → Int × Int} {it : Addr},
    Below A₀ base outer h₀ → Fr h₀ L s.heap m → (Mine.hd.heap_39 w.params).In h₀ → News h₀ L s.heap ((hp, heapOf rs n) :: rest) → Top p loose mean mg mb h₀ → cs.kind = .function → dp + 20 < recursionLimit → un + 140 < cLine →
    (∀ p ∈ rest, p.1 ≠ hp) → (∀ r ∈ rs, IsBd rest v r) → IsBd rest v it → 0 < rs.length → rs.length < 100 →
    (∀ h' tk', Fr h₀ L h' m → News h₀ L h' ((hp, heapOf (sup v (rs.set 0 it) 0) n) :: rest) → Q (.ref (rs.getD 0 0)) { s with heap := h', toks := tk' }) →
    wpAny (model PySem.Challenge.rw_op0091_01.row.prog w) (ktrTop dp un gd cn cs L a ccd cl outer) (call (.ref 28) [.ref hp, .ref it]) Q E s := by
  k_fill
  intro dp un gd cn cs a ccd cl outer A₀ base h₀ L m rest s Q E hp rs n v it B F X N T hk hd hu hrest hall hit hpos hlen hQ
  refine wpAny_call ?_
  k_dflt ktr_enter
  refine wpAny_noRaise ?_
  k_steps
  refine ⟨?_⟩
  rename News _ _ _ _ => N3
  have e0 : Int.toNat 0 = 0 := rfl
  simp only [e0] at N3
  k_dflt (refine' siftup_c (v := v) (ps := 0) ?k1 ?k2 ?k3 N3 ?k5 ?k6 ?k7 ?k8 hrest ?k9 ?k10 ?k11 ?_)
  case k1 => k_asm
  case k2 => k_asm
  case k3 => k_asm
  case k5 => k_asm
  case k6 => rfl
  case k7 => show dp + 1 + 10 < recursionLimit; omega
  case k8 => show un + 3 + 120 < cLine; omega
  case k9 => exact all_set hall hit
  case k10 => rw [List.length_set]; exact hpos
  case k11 => rw [List.length_set]; omega
  intro h3 tk3 F3 N4
  k_steps
  exact hQ _ _ (by assumption) (by assumption)

theorem heappop_c {w : World} {p : Program} {loose : List Str} {mean : ExcName → Option Value} {mg mb : Str → Option Value} : 
  ∀ {dp un : Nat} {gd : Option (List Code)} {cn : Str} {cs : Scope} {a : Addr} {ccd : Value} {cl : List (Str × Addr)} {outer : List Env} {A₀ : Around} {base h₀ : Heap} {L : Addr} {m : Str → Option Value} {rest : List (Addr × Obj)} {s : Shared} 
    {Q E : Value → Shared → Prop} {hp : Addr} {rs : List Addr} {n : Nat} {v : Addr → Int × Int} {y : Addr},
    Below A₀ base outer h₀ → Fr h₀ L s.heap m → (Mine.hd.heap_39 w.params).In h₀ → News h₀ L s.heap ((hp, heapOf (rs ++ [y]) n) :: rest) → Top p loose mean mg mb h₀ → cs.kind = .function → dp + 20 < recursionLimit → un + 140 < cLine →
    (∀ p ∈ rest, p.1 ≠ hp) → (∀ r ∈ rs, IsBd rest v r) → IsBd rest v y → rs.length < 100 →
    (∀ h' tk' rs', Fr h₀ L h' m → News h₀ L h' ((hp, heapOf rs' (n + 1)) :: rest) → ((rs = [] ∧ rs' = []) ∨ (rs ≠ [] ∧ rs' = sup v (rs.set 0 y) 0)) → Q (.ref ((rs ++ [y]).getD 0 0)) { s with heap := h', toks := tk' }) →
    wpAny (model PySem.Challenge.rw_op0091_01.row.prog w) (ktrTop dp un gd cn cs L a ccd cl outer) (call (.ref 21) [.ref hp]) Q E s := by
  k_fill
  intro dp un gd cn cs a ccd cl outer A₀ base h₀ L m rest s Q E hp rs n v y B F X N T hk hd hu hrest hall hy hlen hQ
  refine wpAny_call ?_
  k_dflt ktr_enter
  refine wpAny_noRaise ?_
  k_steps
  · rename (List.isEmpty _ = true) => he
    have e : rs = [] := by simpa using he
    subst e
    exact hQ _ _ [] (by assumption) (by assumption) (.inl ⟨rfl, rfl⟩)
  · rename (List.isEmpty _ = false) => he
    have hne : rs ≠ [] := by simpa using he
    have hpos : 0 < rs.length := List.length_pos_iff.mpr hne
    k_steps
    refine ⟨?_⟩
    rename News _ _ _ _ => N3
    have e0 : Int.toNat 0 = 0 := rfl
    simp only [e0] at N3
    k_dflt (refine' siftup_c (v := v) (ps := 0) ?k1 ?k2 ?k3 N3 ?k5 ?k6 ?k7 ?k8 hrest ?k9 ?k10 ?k11 ?_)
    case k1 => k_asm
    case k2 => k_asm
    case k3 => k_asm
    case k5 => k_asm
    case k6 => rfl
    case k7 => show dp + 1 + 10 < recursionLimit; omega
    case k8 => show un + 3 + 120 < cLine; omega
    case k9 => exact all_set hall hy
    case k10 => rw [List.length_set]; exact hpos
    case k11 => rw [List.length_set]; omega
    intro h3 tk3 F3 N4
    k_steps
    have e1 : (rs ++ [y]).getD 0 0 = rs.getD 0 0 := by
      cases rs with
      | nil => exact absurd rfl hne
      | cons a r => rfl
    rw [e1] at hQ
    exact hQ _ _ _ (by assumption) (by assumption) (.inr ⟨hne, rfl⟩)
end Mine
end

section
open PySem PySem.W PyProof.Rows
set_option Elab.async false
namespace Mine
theorem land_high (x S : Nat) : x &&& (x / 2 ^ S * 2 ^ S) = x / 2 ^ S * 2 ^ S := by
  rw [← Nat.shiftRight_eq_div_pow, ← Nat.shiftLeft_eq]
  apply Nat.eq_of_testBit_eq
  intro i
  rw [Nat.testBit_and, Nat.testBit_shiftLeft, Nat.testBit_shiftRight]
  by_cases h : S ≤ i
  · simp [h]
  · simp [h]
theorem xor_high (x : Int) (S : Nat) (h0 : 0 ≤ x) : Builtin.bitXor x (x / 2 ^ S * 2 ^ S) = x % 2 ^ S := by
  obtain ⟨n, rfl⟩ := Int.eq_ofNat_of_zero_le h0
  have e : ((n : Int) / 2 ^ S * 2 ^ S) = ((n / 2 ^ S * 2 ^ S : Nat) : Int) := by push_cast; rfl
  rw [bitXor_and, e]
  have e2 : Builtin.bitAnd (n : Int) ((n / 2 ^ S * 2 ^ S : Nat) : Int) = ((n &&& (n / 2 ^ S * 2 ^ S) : Nat) : Int) := rfl
  rw [e2, land_high]
  have e3 : ((n : Int) % 2 ^ S) = ((n % 2 ^ S : Nat) : Int) := by push_cast; rfl
  rw [e3]
  have := Nat.div_add_mod n (2 ^ S)
  rw [Nat.mul_comm] at this
  omega
/-- digit i of x in base 2^n -/
def dig (x : Int) (n i : Nat) : Int := x / 2 ^ (n * i) % 2 ^ n
theorem two_pos (S : Nat) : (0 : Int) < 2 ^ S := Int.pow_pos (by decide)
theorem dig_low (x : Int) (n j i : Nat) (h : i < j) : dig (x % 2 ^ (j * n)) n i = dig x n i := by
  unfold dig
  have e : j * n = n * i + n + (j - i - 1) * n := by
    have : j = i + 1 + (j - i - 1) := by omega
    conv => lhs; rw [this]
    rw [Nat.add_mul, Nat.add_mul, Nat.one_mul, Nat.mul_comm i n]
  rw [e, Int.pow_add, Int.pow_add]
  generalize hA : (2 : Int) ^ (n * i) = A
  generalize hB : (2 : Int) ^ n = B
  generalize hC : (2 : Int) ^ ((j - i - 1) * n) = C
  have pA : 0 < A := hA ▸ two_pos _
  have pB : 0 < B := hB ▸ two_pos _
  have pC : 0 < C := hC ▸ two_pos _
  have h1 : x % (A * B * C) = x - A * (B * (C * (x / (A * B * C)))) := by
    have := Int.emod_add_mul_ediv x (A * B * C)
    have e2 : A * B * C * (x / (A * B * C)) = A * (B * (C * (x / (A * B * C)))) := by simp only [Int.mul_assoc]
    omega
  have h2 : (x - A * (B * (C * (x / (A * B * C))))) / A = x / A - B * (C * (x / (A * B * C))) := by
    rw [Int.sub_eq_add_neg, ← Int.mul_neg, Int.add_mul_ediv_left _ _ (Int.ne_of_gt pA), ← Int.sub_eq_add_neg]
  rw [h1, h2, Int.sub_eq_add_neg, ← Int.mul_neg, Int.add_mul_emod_self_left]
theorem dig_high (x : Int) (n j i : Nat) : dig (x / 2 ^ (j * n)) n i = dig x n (j + i) := by
  unfold dig
  have e : n * (j + i) = j * n + n * i := by rw [Nat.mul_add, Nat.mul_comm n j]
  rw [Int.ediv_ediv_of_nonneg (Int.le_of_lt (two_pos _)), ← Int.pow_add, e]
theorem dig_zero (x : Int) (n : Nat) (h0 : 0 ≤ x) (h : x < 2 ^ n) : dig x n 0 = x := by
  unfold dig
  rw [Nat.mul_zero, Int.pow_zero, Int.ediv_one, Int.emod_eq_of_lt h0 h]
end Mine
end

section
open PySem PySem.W PyProof.Rows
set_option Elab.async false
set_option maxRecDepth 100000
set_option maxHeartbeats 1000000
namespace Mine
theorem calmInner : True := by
  w_top off
  (try walk1)
  all_goals trivial
def defAt (k : Nat) : List Stmt := match PySem.Challenge.pw_op0091_01.main.body[k]? with | some (.FunctionDef _ _ b _ _ _ _ _ _ _) => b | _ => []
def nestA (k j : Nat) : Arguments := match (defAt k)[j]? with | some (.FunctionDef _ a _ _ _ _ _ _ _ _) => a | _ => { posonlyargs := [], args := [], vararg := none, kwonlyargs := [], kw_defaults := [], kwarg := none, defaults := [] }
def nestB (k j : Nat) : List Stmt := match (defAt k)[j]? with | some (.FunctionDef _ _ b _ _ _ _ _ _ _) => b | _ => []
def nestS (k j : Nat) : Scope := match (defAt k)[j]? with | some (.FunctionDef _ _ _ _ _ _ sc _ _ _) => sc | _ => default
abbrev q1 : Str := Str.ofString "_int2digits.<locals>.inner"

section
variable {prog : Program} {w : World} {A : Around} {E : Value → Shared → Prop} {s : Shared} {a b c : Int} {t u : Tok} {Q : Value → Shared → Prop}
theorem mul_to (hc : a * b = c) (hm : IntMulOk a b) (h : Q (.int c s.toks) { s with toks := s.toks + 1 }) : wpAny (model prog w) A (binaryOp .Mult (.int a t) (.int b u)) Q E s := mul_int (by rw [hc]; exact h) hm
theorem rsh_to (hc : a.fdiv (2 ^ b.toNat) = c) (hn : 0 ≤ b) (h : Q (.int c s.toks) { s with toks := s.toks + 1 }) : wpAny (model prog w) A (binaryOp .RShift (.int a t) (.int b u)) Q E s := rshift_int hn (by rw [hc]; exact h)
theorem lsh_to (hc : a * 2 ^ b.toNat = c) (hn : 0 ≤ b) (hsz : (Builtin.Int.intBits a : Int) + b ≤ 2 ^ 27) (h : Q (.int c s.toks) { s with toks := s.toks + 1 }) : wpAny (model prog w) A (binaryOp .LShift (.int a t) (.int b u)) Q E s := lshift_int hn hsz (by rw [hc]; exact h)
theorem xor_to (hc : Builtin.bitXor a b = c) (h : Q (.int c s.toks) { s with toks := s.toks + 1 }) : wpAny (model prog w) A (binaryOp .BitXor (.int a t) (.int b u)) Q E s := xor_int (by rw [hc]; exact h)
end
local macro_rules | `(tactic| walk_at "eval Name") => `(tactic| (k_here; k_dflt (refine' nameX_F ?N ?c ?m ?d ?_ ?a ?b; (case a => rfl); (case b => rfl); (case N => with_reducible assumption); (case c => rfl); (case m => with_reducible assumption); (case d => with_reducible assumption); k_whole)))
local macro_rules | `(tactic| walk_at "callWith ref") => `(tactic| (refine Stop.out ?_))
local macro_rules | `(tactic| walk_at "binaryOp Mult int int") => `(tactic| (k_here; k_dflt (refine' mul_to ?k1 ?k2 ?_; (case k1 => with_reducible assumption); (case k2 => with_reducible assumption); k_whole)))
local macro_rules | `(tactic| walk_at "binaryOp RShift int int") => `(tactic| (k_here; k_dflt (refine' rsh_to ?k1 ?k2 ?_; (case k1 => with_reducible assumption); (case k2 => omega); k_whole)))
local macro_rules | `(tactic| walk_at "binaryOp LShift int int") => `(tactic| (k_here; k_dflt (refine' lsh_to ?k1 ?k2 ?k3 ?_; (case k1 => with_reducible assumption); (case k2 => omega); (case k3 => with_reducible assumption); k_whole)))
local macro_rules | `(tactic| walk_at "binaryOp BitXor int int") => `(tactic| (k_here; k_dflt (refine' xor_to ?k1 ?_; (case k1 => with_reducible assumption); k_whole)))
local macro_rules | `(tactic| walk_at "setItem ref int") => `(tactic| (refine Stop.out ?_))
local macro_rules | `(tactic| walk_at "And") => `(tactic| (refine Stop.out ?_))
theorem inner1_c {w : World} {p : Program} {loose : List Str} {mean : ExcName → Option Value} {mg mb : Str → Option Value} : 
  ∀ (k : Nat) {dp un : Nat} {gd : Option (List Code)} {cn : Str} {cs : Scope} {a : Addr} {ccd : Value} {cl : List (Str × Addr)} {outer : List Env} {A₀ : Around} {base h₀ : Heap} {L : Addr} {m : Str → Option Value} {rest : List (Addr × Obj)} {s : Shared} 
    {Q E : Value → Shared → Prop} {f dg c' ca ci cc : Addr} {doc pm ctv : Value} {oc oa oi on : Obj} {fs : Array Value} {tq : Tok} {vs : List Value} {ns : List Int} {e : Nat} {nn : Nat} {tn : Tok} {x : Int} {Lo Hi : Nat} {t1 t2 t3 : Tok},
    Below A₀ base outer h₀ → Fr h₀ L s.heap m → (Mine.hd.heap_39 w.params).In h₀ → News h₀ L s.heap ((dg, listOf vs.toArray e) :: rest) → Top p loose mean mg mb h₀ → cs.kind = .function → dp + k + 5 < recursionLimit → un + 8 * k + 40 < cLine →
    (f, fnMade (Str.ofString "inner") q1 (nestA 10 1) (nestB 10 1) (nestS 10 1) [(Str.ofString "n", cc), (Str.ofString "inner", ci), (Str.ofString "a_digits", ca)] doc pm c' ctv) ∈ rest →
    (c', oc) ∈ rest → oc.data = .fields fs → fs[1]? = some (.str q1 tq) →
    (cc, on) ∈ rest → on.data = .cell (some (.int nn tn)) → (ci, oi) ∈ rest → oi.data = .cell (some (.ref f)) → (ca, oa) ∈ rest → oa.data = .cell (some (.ref dg)) →
    (∀ p ∈ rest, p.1 ≠ dg) → IntsAre vs ns → Lo + k = Hi → 0 < k → Hi ≤ ns.length → ns.length ≤ 8 → nn < 4194304 → 0 ≤ x → x < 2 ^ (nn * k) →
    (∀ h' tk' vs' ns', Fr h₀ L h' m → News h₀ L h' ((dg, listOf vs'.toArray e) :: rest) → IntsAre vs' ns' → ns'.length = ns.length → (∀ i, ns'.getD i 0 = if Lo ≤ i ∧ i < Hi then dig x nn (i - Lo) else ns.getD i 0) → Q .none { s with heap := h', toks := tk' }) →
    wpAny (model PySem.Challenge.rw_op0091_01.row.prog w) (ktrTop dp un gd cn cs L a ccd cl outer) (call (.ref f) [.int x t1, .int Lo t2, .int Hi t3]) Q E s := by
  k_fill
  intro k
  induction k using Nat.strongRecOn with
  | ind k ih =>
  intro dp un gd cn cs a ccd cl outer A₀ base h₀ L m rest s Q E f dg c' ca ci cc doc pm ctv oc oa oi on fs tq vs ns e nn tn x Lo Hi t1 t2 t3 B F X N T hk hd hu hf hc hc1 hc2 hn1 hn2 hi1 hi2 ha1 ha2 hrest hI hLH hk0 hHi h8 hnn hx0 hx hQ
  obtain ⟨M, hM⟩ : ∃ M, M = (Lo + Hi) / 2 := ⟨_, rfl⟩
  obtain ⟨S, hS⟩ : ∃ S, S = (M - Lo) * nn := ⟨_, rfl⟩
  have z1 : ((Lo : Int) + (Hi : Int)).fdiv (2 ^ (Int.toNat 1)) = (M : Int) := by
    rw [show ((2 : Int) ^ (Int.toNat 1)) = 2 from rfl, Int.fdiv_eq_ediv_of_nonneg _ (by decide)]
    omega
  have z2 : ((M : Int) - (Lo : Int)) * (nn : Int) = (S : Int) := by
    have e : (M : Int) - (Lo : Int) = ((M - Lo : Nat) : Int) := by omega
    rw [e, hS]; push_cast; rfl
  have z2' : IntMulOk ((M : Int) - (Lo : Int)) (nn : Int) := IntMulOk.of_le (m := 64) (n := 64) (intBits_le_64 (by omega) (by omega)) (intBits_le_64 (by omega) (by omega)) (by decide)
  obtain ⟨U, hU⟩ : ∃ U, U = x / 2 ^ S := ⟨_, rfl⟩
  obtain ⟨V, hV⟩ : ∃ V, V = U * 2 ^ S := ⟨_, rfl⟩
  obtain ⟨W, hW⟩ : ∃ W, W = x % 2 ^ S := ⟨_, rfl⟩
  have z3 : x.fdiv (2 ^ ((S : Int).toNat)) = U := by rw [Int.toNat_natCast, Int.fdiv_eq_ediv_of_nonneg _ (Int.le_of_lt (two_pos _)), hU]
  have z4 : U * 2 ^ ((S : Int).toNat) = V := by rw [Int.toNat_natCast, hV]
  have z5 : Builtin.bitXor x V = W := by rw [hV, hU, hW]; exact xor_high x S hx0
  have hSle : S ≤ nn * k := by
    rw [hS, Nat.mul_comm]
    exact Nat.mul_le_mul_left _ (by omega)
  have hnk : nn * k ≤ 4194304 * 8 := Nat.mul_le_mul (by omega) (by omega)
  have z6 : (Builtin.Int.intBits U : Int) + (S : Int) ≤ 2 ^ 27 := by
    have h1 : Builtin.Int.intBits x ≤ nn * k := intBits_le_iff.mpr (by
      have : ((x.natAbs : Nat) : Int) < ((2 ^ (nn * k) : Nat) : Int) := by push_cast; omega
      exact Int.ofNat_lt.mp this)
    have h2 : Builtin.Int.intBits U ≤ nn * k := by rw [← z3]; exact intBits_fdiv_le h1
    omega
  have hU0 : 0 ≤ U := by rw [hU]; exact Int.ediv_nonneg hx0 (Int.le_of_lt (two_pos _))
  have hW0 : 0 ≤ W := by rw [hW]; exact Int.emod_nonneg _ (Int.ne_of_gt (two_pos _))
  have hW1 := Stop.mk (show W < 2 ^ (nn * (M - Lo)) by rw [hW, hS, Nat.mul_comm nn]; exact Int.emod_lt_of_pos _ (two_pos _))
  have hU1 := Stop.mk (show M ≤ Hi → Lo ≤ M → U < 2 ^ (nn * (Hi - M)) by
    intro h1 h2
    rw [hU, hS]
    refine Int.ediv_lt_of_lt_mul (two_pos _) ?_
    rw [← Int.pow_add]
    have e : nn * (Hi - M) + (M - Lo) * nn = nn * k := by rw [Nat.mul_comm (M - Lo), ← Nat.mul_add]; congr 1; omega
    rw [e]; exact hx)
  have hxx := Stop.mk hx
  have hWx := Stop.mk hW
  have hUx := Stop.mk hU
  clear hx hW hU hV
  refine wpAny_call ?_
  k_dflt (refine' code_nest ?k1 ?k2 ?k3 ?k4 ?k5 ?kA ?kF ?kK ?k6 ?k7 ?k8 ?k9 ?kB ?_ ?c2 ?c3 ?c4 ?c5; (case kA => exact rfl); (case kF => exact rfl); (case kK => assumption); (case k1 => k_asm); (case k2 => k_asm); (case k3 => k_asm); (case k4 => k_asm); (case k5 => k_asm); (case k6 => exact .tail _ hf); (case k7 => exact codeRec_news N (.tail _ hc) hc1 hc2); (case k8 => show dp < recursionLimit; omega); (case k9 => exact BindsTo.of_eq rfl); (case c5 => decide +kernel); (case kB => exact locs rfl); (case c2 => exact rfl); (case c3 => exact rfl); (case c4 => exact rfl); k_whole)
  intro g' L' h' FG' F' N' B' X' T'
  (try dsimp only)
  k_fold
  replace F' : Fr g' L' h' (fun y => List.lookup y [(Str.ofString "R", .int Hi t3), (Str.ofString "L", .int Lo t2), (Str.ofString "x", .int x t1)]) := F'
  have eB : nestB 10 1 = nestB 10 1 := rfl
  conv at eB => rhs; whnf
  have eS : nestS 10 1 = nestS 10 1 := rfl
  conv at eS => rhs; whnf
  rw [eB, eS]
  clear eB eS
  refine wpAny_noRaise ?_
  have m0 : (cc, on) ∈ (dg, listOf vs.toArray e) :: rest := .tail _ hn1
  have m1 : (ci, oi) ∈ (dg, listOf vs.toArray e) :: rest := .tail _ hi1
  have m2 : (ca, oa) ∈ (dg, listOf vs.toArray e) :: rest := .tail _ ha1
  k_steps
  · refine ⟨?_⟩
    rename News _ _ _ _ => N1
    have hl : vs.length = ns.length := hI.length
    clear hM
    refine ksa_set (by assumption) N1 (Upd.head hrest) hI (by omega) (by omega) (by omega) ?_
    intro h2 F2 N2 hi2 hl2 _
    k_steps
    have e0 : (Lo : Int).toNat = Lo := by omega
    rename (_ = (Hi : Int)) => hLH1
    have hk1 : k = 1 := by omega
    refine hQ _ _ _ _ (by assumption) (by assumption) hi2 hl2 ?_
    intro i
    rw [e0]
    have hx1 := hxx.out
    rw [hk1, Nat.mul_one] at hx1
    by_cases hi : Lo ≤ i ∧ i < Hi
    · have e : i = Lo := by omega
      subst e
      rw [if_pos hi, Nat.sub_self, dig_zero x nn hx0 hx1]
      have : i < ns.length := by omega
      simp [List.getD, this]
    · rw [if_neg hi]
      have : Lo ≠ i := by omega
      simp [List.getD, List.getElem?_set_ne this]
  · refine ⟨?_⟩
    rename (¬ (_ = (Hi : Int))) => hLH1
    have hMlo : Lo < M := by omega
    have hMhi : M < Hi := by omega
    clear hM
    refine callWith_F (FnAt.of (by assumption) (.tail _ hf)) ?_
    k_steps
    refine ⟨?_⟩
    refine ⟨FnAt.of (by assumption) (.tail _ hf), ?_⟩
    (try dsimp only [List.nil_append])
    rename News _ _ _ _ => Nc1
    k_dflt (refine' ih (M - Lo) ?hlt1 (x := W) (Lo := Lo) (Hi := M) (vs := vs) (ns := ns) ?k1 ?k2 ?k3 Nc1 ?k5 ?k6 ?k7 ?k8 hf hc hc1 hc2 hn1 hn2 hi1 hi2 ha1 ha2 hrest ?kI ?kLH ?kk0 ?kHi ?k88 hnn ?kx0 ?kx ?_)
    case hlt1 => omega
    case k1 => k_asm
    case k2 => k_asm
    case k3 => k_asm
    case k5 => k_asm
    case k6 => rfl
    case k7 => show dp + 1 + (M - Lo) + 5 < recursionLimit; omega
    case k8 => show un + 3 + 8 * (M - Lo) + 40 < cLine; omega
    case kI => exact hI
    case kLH => omega
    case kk0 => omega
    case kHi => omega
    case k88 => exact h8
    case kx0 => exact hW0
    case kx => exact hW1.out
    intro h3 tk3 vs3 ns3 F3 N3 hI3 hl3 hd3
    clear m0 m1 m2
    have m0 : (cc, on) ∈ (dg, listOf vs3.toArray e) :: rest := .tail _ hn1
    have m1 : (ci, oi) ∈ (dg, listOf vs3.toArray e) :: rest := .tail _ hi1
    have m2 : (ca, oa) ∈ (dg, listOf vs3.toArray e) :: rest := .tail _ ha1
    k_steps
    refine ⟨?_⟩
    refine callWith_F (FnAt.of (by assumption) (.tail _ hf)) ?_
    k_steps
    refine ⟨?_⟩
    refine ⟨FnAt.of (by assumption) (.tail _ hf), ?_⟩
    (try dsimp only [List.nil_append])
    rename News _ _ _ _ => Nc2
    k_dflt (refine' ih (Hi - M) ?hlt2 (x := U) (Lo := M) (Hi := Hi) (vs := vs3) (ns := ns3) ?k1 ?k2 ?k3 Nc2 ?k5 ?k6 ?k7 ?k8 hf hc hc1 hc2 hn1 hn2 hi1 hi2 ha1 ha2 hrest ?kI ?kLH ?kk0 ?kHi ?k88 hnn ?kx0 ?kx ?_)
    case hlt2 => omega
    case k1 => k_asm
    case k2 => k_asm
    case k3 => k_asm
    case k5 => k_asm
    case k6 => rfl
    case k7 => show dp + 1 + (Hi - M) + 5 < recursionLimit; omega
    case k8 => show un + 3 + 8 * (Hi - M) + 40 < cLine; omega
    case kI => exact hI3
    case kLH => omega
    case kk0 => omega
    case kHi => omega
    case k88 => omega
    case kx0 => exact hU0
    case kx => exact hU1.out (by omega) (by omega)
    intro h4 tk4 vs4 ns4 F4 N4 hI4 hl4 hd4
    k_steps
    refine hQ _ _ vs4 ns4 (by assumption) (by assumption) hI4 (hl4.trans (by assumption)) ?_
    intro i
    rw [hd4 i, hUx.out, hS]
    by_cases h1 : M ≤ i ∧ i < Hi
    · rw [if_pos h1, if_pos ⟨by omega, h1.2⟩, dig_high]
      congr 1
      omega
    · rw [if_neg h1, hd3 i]
      by_cases h2 : Lo ≤ i ∧ i < M
      · rw [if_pos h2, if_pos ⟨h2.1, by omega⟩, hWx.out, hS, dig_low _ _ _ _ (by omega)]
      · rw [if_neg h2, if_neg (by omega)]
end Mine
end

section
open PySem PySem.W PyProof.Rows
set_option Elab.async false
set_option maxRecDepth 100000
set_option maxHeartbeats 1000000
namespace Mine
theorem calmI2d : True := by
  w_top off
  (try walk1)
  all_goals trivial
/-- the table of a def's nested code objects: empty, or the one def's code at (ln, cl) -/
def TabSt (q : Str) (ln cl : Nat) (o : Obj) (rest : List (Addr × Obj)) : Prop :=
  o = tabObj #[] ∨ ∃ c oc vs t, o = tabObj #[rawInt ln, rawInt cl, .ref c] ∧ (c, oc) ∈ rest ∧ oc.data = .fields vs ∧ vs[1]? = some (.str q t)
theorem ints_rep {t : Tok} : ∀ D : Nat, IntsAre (List.replicate D (Value.int 0 t)) (List.replicate D 0)
  | 0 => .nil
  | D + 1 => .cons 0 t (ints_rep D)
local macro_rules | `(tactic| k_all) => `(tactic| assumption)
local macro_rules | `(tactic| walk_at "binaryOp Mult ref int") => `(tactic| (refine Stop.out ?_))
local macro_rules | `(tactic| walk_at "call builtin:len") => `(tactic| (refine Stop.out ?_))
local macro_rules | `(tactic| walk_at "callWith ref") => `(tactic| (refine Stop.out ?_))
local macro_rules | `(tactic| walk_at "And") => `(tactic| (refine Stop.out ?_))

theorem i2d_a {w : World} {p : Program} {loose : List Str} {mean : ExcName → Option Value} {mg mb : Str → Option Value} : 
  ∀ {dp un : Nat} {gd : Option (List Code)} {cn : Str} {cs : Scope} {a : Addr} {ccd : Value} {cl : List (Str × Addr)} {outer : List Env} {A₀ : Around} {base h₀ : Heap} {L : Addr} {m : Str → Option Value} {rest : List (Addr × Obj)} {s : Shared} 
    {Q E : Value → Shared → Prop} {x : Int} {nn : Nat} {t1 t2 : Tok} {D : Nat} {c0 : Addr} {oc0 : Obj} {fs0 : Array Value} {tq0 : Tok},
    Below A₀ base outer h₀ → Fr h₀ L s.heap m → (Mine.hd.heap_39 w.params).In h₀ → News h₀ L s.heap ((65, tabObj #[]) :: rest) → Top p loose mean mg mb h₀ → cs.kind = .function → dp + 20 < recursionLimit → un + 140 < cLine →
    (∀ p ∈ rest, p.1 ≠ 65) →  0 < x → 0 < nn → nn < 4194304 → (((Builtin.Int.intBits x : Nat) : Int) + (nn : Int) - 1).fdiv (nn : Int) = (D : Int) → 0 < D → D ≤ 8 → x < 2 ^ (nn * D) →
    (∀ dg vs' ns' tab' ext h' tk', Fr h₀ L h' m → News h₀ L h' ((dg, listOf vs'.toArray 0) :: (65, tab') :: (ext ++ rest)) → TabSt q1 75 4 tab' (ext ++ rest) → (∀ q ∈ (dg, tab') :: ext, 65 < q.1 ∧ ∀ p ∈ rest, p.1 < q.1) → (∀ q ∈ ext, q.1 ≠ dg) →
      IntsAre vs' ns' → ns'.length = D → (∀ i, i < D → ns'.getD i 0 = dig x nn i) → Q (.ref dg) { s with heap := h', toks := tk' }) →
    wpAny (model PySem.Challenge.rw_op0091_01.row.prog w) (ktrTop dp un gd cn cs L a ccd cl outer) (call (.ref 70) [.int x t1, .int nn t2]) Q E s := by
  k_fill
  intro dp un gd cn cs a ccd cl outer A₀ base h₀ L m rest s Q E x nn t1 t2 D c0 oc0 fs0 tq0 B F X N T hk hd hu hrest hx hn hn2 hD hD0 hD8 hxD hQ
  have hxx := Stop.mk hxD
  clear hxD
  refine wpAny_call ?_
  k_dflt (refine' code_defC ?k1 ?k2 ?k3 ?k4 ?k5 ?kA ?kF ?kK ?k6 ?k7 ?k8 ?k9 ?kB ?kD ?_ ?c2 ?c3 ?c4; (case kA => exact rfl); (case kF => exact rfl); (case kK => assumption); (case k1 => k_asm); (case k2 => k_asm); (case k3 => k_asm); (case k4 => k_asm); (case k5 => k_asm); (case k6 => k_is); (case k7 => k_is); (case k8 => ktr_room); (case k9 => exact BindsTo.of_eq rfl); (case kB => exact rfl); (case kD => decide +kernel); (case c2 => exact rfl); (case c3 => exact rfl); (case c4 => exact rfl); k_whole)
  intro g' L' h' tk' cells' FG' F' N' Y' B' X' T' l1
  (try dsimp only)
  k_fold
  obtain ⟨o1, o2, o3, hE, d1, d2, d3⟩ := CellsAre.three Y'
  subst hE
  clear Y'
  simp only [List.cons_append, List.nil_append] at N'
  have C' := codeHd_of_K (c := 69) (P := 65) X' (by kernel_rfl)
  replace d1 : o1.data = .cell none := d1
  replace d2 : o2.data = .cell none := d2
  replace d3 : o3.data = .cell (some (.int nn t2)) := d3
  refine wpAny_noRaise ?_
  have q1' : ∀ p ∈ rest, p.1 ≠ L' + 1 := fun p hp => Nat.ne_of_lt (Nat.lt_succ_of_lt (l1 p (.tail _ hp)))
  have q2' : ∀ p ∈ rest, p.1 ≠ L' + 1 + 1 := fun p hp => Nat.ne_of_lt (Nat.lt_succ_of_lt (Nat.lt_succ_of_lt (l1 p (.tail _ hp))))
  have q3' : ∀ p ∈ rest, p.1 ≠ L' + 1 + 1 + 1 := fun p hp => Nat.ne_of_lt (Nat.lt_succ_of_lt (Nat.lt_succ_of_lt (Nat.lt_succ_of_lt (l1 p (.tail _ hp)))))
  have q4' : @LT.lt Nat _ 65 L' := l1 _ (.head _)
  k_steps
  refine ⟨?_⟩
  rw [hD]
  rename News _ _ _ _ => N1
  k_dflt (refine' KMa.mul (ws := List.replicate D (.int 0 tk')) ?k1 N1 ?k3 ?k4 ?k5 ?k6 ?k7 ?_)
  case k1 => k_asm
  case k3 => exact PySem.IsL.isList (n := 0) (N1 _ (.head _)).1
  case k4 => omega
  case k5 => omega
  case k6 => simp; omega
  case k7 => simp [List.flatten_replicate_singleton]
  intro dg h2 F2 N2 hlt
  have hlt' := allLt_of hlt
  simp only [AllLt, and_true] at hlt'
  k_steps
  rotate_left
  · exfalso; omega
  rename_i oA dA f1 c1 oc1 fs1 tq1 ct1 dc1 hh1 tk1 e1 e2 lc1 lc2 hh2 oI F3 N3 dI hx0
  refine ⟨?_⟩
  refine callWith_F (FnAt.of N3 (.head _)) ?_
  k_steps
  refine ⟨?_⟩
  refine len_list (PySem.IsL.isList (n := 0) (N3 (dg, listOf (List.replicate D (Value.int 0 tk')).toArray 0) (by exact .tail _ (.tail _ (.head _)))).1) (by simp; omega) ?_
  rw [List.size_toArray, List.length_replicate]
  k_steps
  refine ⟨?_⟩
  refine ⟨FnAt.of N3 (.head _), ?_⟩
  (try dsimp only [List.nil_append])
  have N4 : News g' L' hh2 ((dg, listOf (List.replicate D (Value.int 0 tk')).toArray 0) :: (f1, fnMade (Str.ofString "inner") q1 (nestA 10 1) (nestB 10 1) (nestS 10 1) [(Str.ofString "n", L' + 1), (Str.ofString "inner", L' + 1 + 1 + 1), (Str.ofString "a_digits", L' + 1 + 1)] dc1 ((mg (Str.ofString "__name__")).getD Value.none) c1 ct1) :: (c1, oc1) :: (L' + 1 + 1 + 1, oI) :: (L' + 1 + 1, oA) :: (L' + 1, o3) :: (65, tabObj #[rawInt (75 : Nat), rawInt (4 : Nat), .ref c1]) :: rest) := by
    intro p hp
    rcases List.mem_cons.mp hp with rfl | hp
    · exact N3 _ (.tail _ (.tail _ (.head _)))
    rcases List.mem_cons.mp hp with rfl | hp
    · exact N3 _ (.head _)
    rcases List.mem_cons.mp hp with rfl | hp
    · exact N3 _ (.tail _ (.head _))
    exact N3 _ (.tail _ (.tail _ (.tail _ (.tail _ hp))))
  clear N3
  have rne : ∀ p ∈ (f1, fnMade (Str.ofString "inner") q1 (nestA 10 1) (nestB 10 1) (nestS 10 1) [(Str.ofString "n", L' + 1), (Str.ofString "inner", L' + 1 + 1 + 1), (Str.ofString "a_digits", L' + 1 + 1)] dc1 ((mg (Str.ofString "__name__")).getD Value.none) c1 ct1) :: (c1, oc1) :: (L' + 1 + 1 + 1, oI) :: (L' + 1 + 1, oA) :: (L' + 1, o3) :: (65, tabObj #[rawInt (75 : Nat), rawInt (4 : Nat), .ref c1]) :: rest, p.1 ≠ dg := by
    intro p hp
    rcases List.mem_cons.mp hp with rfl | hp
    · exact (Nat.ne_of_lt (Nat.lt_trans lc1.1 lc2)).symm
    rcases List.mem_cons.mp hp with rfl | hp
    · exact (Nat.ne_of_lt lc1.1).symm
    rcases List.mem_cons.mp hp with rfl | hp
    · exact Nat.ne_of_lt hlt'.2.1
    rcases List.mem_cons.mp hp with rfl | hp
    · exact Nat.ne_of_lt hlt'.2.2.1
    rcases List.mem_cons.mp hp with rfl | hp
    · exact Nat.ne_of_lt hlt'.2.2.2.1
    rcases List.mem_cons.mp hp with rfl | hp
    · exact Nat.ne_of_lt hlt'.2.2.2.2.1
    exact Nat.ne_of_lt (hlt p (.tail _ (.tail _ (.tail _ (.tail _ (.tail _ hp))))))
  k_dflt (refine' inner1_c D (Lo := 0) (Hi := D) (ns := List.replicate D 0) ?k1 ?k2 ?k3 N4 ?k5 ?k6 ?k7 ?k8 (.head _) (.tail _ (.head _)) e1 e2 (.tail _ (.tail _ (.tail _ (.tail _ (.head _))))) d3 (.tail _ (.tail _ (.head _))) dI (.tail _ (.tail _ (.tail _ (.head _)))) dA rne ?kI ?kLH ?kk0 ?kHi ?k88 hn2 ?kx0 hxx.out ?_)
  case k1 => k_asm
  case k2 => k_asm
  case k3 => k_asm
  case k5 => k_asm
  case k6 => rfl
  case k7 => show dp + 1 + D + 5 < recursionLimit; omega
  case k8 => show un + 3 + 8 * D + 40 < cLine; omega
  case kI => exact ints_rep D
  case kLH => omega
  case kk0 => exact hD0
  case kHi => rw [List.length_replicate]; exact Nat.le_refl _
  case k88 => rw [List.length_replicate]; exact hD8
  case kx0 => omega
  intro h5 tk5 vs5 ns5 F5 N5 hI5 hl5 hd5
  k_steps
  rename News _ _ _ _ => N6
  refine hQ dg vs5 ns5 (tabObj #[rawInt (75 : Nat), rawInt (4 : Nat), .ref c1]) [(c1, oc1)] _ _ (by assumption) ?_ ?_ ?_ ?_ hI5 ?_ ?_
  · intro p hp
    refine N6 p ?_
    rcases List.mem_cons.mp hp with rfl | hp
    · exact .head _
    rcases List.mem_cons.mp hp with rfl | hp
    · exact .tail _ (.tail _ (.tail _ (.tail _ (.tail _ (.tail _ (.head _))))))
    rcases List.mem_cons.mp hp with rfl | hp
    · exact .tail _ (.tail _ (.head _))
    exact .tail _ (.tail _ (.tail _ (.tail _ (.tail _ (.tail _ (.tail _ hp))))))
  · exact .inr ⟨_, _, _, _, rfl, .head _, e1, e2⟩
  · intro q hq
    rcases List.mem_cons.mp hq with rfl | hq
    · exact ⟨hlt'.2.2.2.2.1, fun p hp => hlt p (.tail _ (.tail _ (.tail _ (.tail _ (.tail _ hp)))))⟩
    rcases List.mem_cons.mp hq with rfl | hq
    · exact ⟨Nat.lt_trans hlt'.2.2.2.2.1 lc1.1, fun p hp => Nat.lt_trans (hlt p (.tail _ (.tail _ (.tail _ (.tail _ (.tail _ hp)))))) lc1.1⟩
    cases hq
  · intro q hq
    rcases List.mem_cons.mp hq with rfl | hq
    · exact (Nat.ne_of_lt lc1.1).symm
    cases hq
  · rw [hl5, List.length_replicate]
  · intro i hi
    rw [hd5 i, if_pos ⟨Nat.zero_le _, hi⟩, Nat.sub_zero]

theorem i2d_b {w : World} {p : Program} {loose : List Str} {mean : ExcName → Option Value} {mg mb : Str → Option Value} : 
  ∀ {dp un : Nat} {gd : Option (List Code)} {cn : Str} {cs : Scope} {a : Addr} {ccd : Value} {cl : List (Str × Addr)} {outer : List Env} {A₀ : Around} {base h₀ : Heap} {L : Addr} {m : Str → Option Value} {rest : List (Addr × Obj)} {s : Shared} 
    {Q E : Value → Shared → Prop} {x : Int} {nn : Nat} {t1 t2 : Tok} {D : Nat} {c0 : Addr} {oc0 : Obj} {fs0 : Array Value} {tq0 : Tok},
    Below A₀ base outer h₀ → Fr h₀ L s.heap m → (Mine.hd.heap_39 w.params).In h₀ → News h₀ L s.heap ((65, tabObj #[rawInt (75 : Nat), rawInt (4 : Nat), .ref c0]) :: rest) → Top p loose mean mg mb h₀ → cs.kind = .function → dp + 20 < recursionLimit → un + 140 < cLine →
    (∀ p ∈ rest, p.1 ≠ 65) → (c0, oc0) ∈ rest → oc0.data = .fields fs0 → fs0[1]? = some (.str q1 tq0) → 0 < x → 0 < nn → nn < 4194304 → (((Builtin.Int.intBits x : Nat) : Int) + (nn : Int) - 1).fdiv (nn : Int) = (D : Int) → 0 < D → D ≤ 8 → x < 2 ^ (nn * D) →
    (∀ dg vs' ns' tab' ext h' tk', Fr h₀ L h' m → News h₀ L h' ((dg, listOf vs'.toArray 0) :: (65, tab') :: (ext ++ rest)) → TabSt q1 75 4 tab' (ext ++ rest) → (∀ q ∈ (dg, tab') :: ext, 65 < q.1 ∧ ∀ p ∈ rest, p.1 < q.1) → (∀ q ∈ ext, q.1 ≠ dg) →
      IntsAre vs' ns' → ns'.length = D → (∀ i, i < D → ns'.getD i 0 = dig x nn i) → Q (.ref dg) { s with heap := h', toks := tk' }) →
    wpAny (model PySem.Challenge.rw_op0091_01.row.prog w) (ktrTop dp un gd cn cs L a ccd cl outer) (call (.ref 70) [.int x t1, .int nn t2]) Q E s := by
  k_fill
  intro dp un gd cn cs a ccd cl outer A₀ base h₀ L m rest s Q E x nn t1 t2 D c0 oc0 fs0 tq0 B F X N T hk hd hu hrest hc0 hc1 hc2 hx hn hn2 hD hD0 hD8 hxD hQ
  have hxx := Stop.mk hxD
  clear hxD
  refine wpAny_call ?_
  k_dflt (refine' code_defC ?k1 ?k2 ?k3 ?k4 ?k5 ?kA ?kF ?kK ?k6 ?k7 ?k8 ?k9 ?kB ?kD ?_ ?c2 ?c3 ?c4; (case kA => exact rfl); (case kF => exact rfl); (case kK => assumption); (case k1 => k_asm); (case k2 => k_asm); (case k3 => k_asm); (case k4 => k_asm); (case k5 => k_asm); (case k6 => k_is); (case k7 => k_is); (case k8 => ktr_room); (case k9 => exact BindsTo.of_eq rfl); (case kB => exact rfl); (case kD => decide +kernel); (case c2 => exact rfl); (case c3 => exact rfl); (case c4 => exact rfl); k_whole)
  intro g' L' h' tk' cells' FG' F' N' Y' B' X' T' l1
  (try dsimp only)
  k_fold
  obtain ⟨o1, o2, o3, hE, d1, d2, d3⟩ := CellsAre.three Y'
  subst hE
  clear Y'
  simp only [List.cons_append, List.nil_append] at N'
  have C' := codeHd_of_K (c := 69) (P := 65) X' (by kernel_rfl)
  replace d1 : o1.data = .cell none := d1
  replace d2 : o2.data = .cell none := d2
  replace d3 : o3.data = .cell (some (.int nn t2)) := d3
  refine wpAny_noRaise ?_
  have q1' : ∀ p ∈ rest, p.1 ≠ L' + 1 := fun p hp => Nat.ne_of_lt (Nat.lt_succ_of_lt (l1 p (.tail _ hp)))
  have q2' : ∀ p ∈ rest, p.1 ≠ L' + 1 + 1 := fun p hp => Nat.ne_of_lt (Nat.lt_succ_of_lt (Nat.lt_succ_of_lt (l1 p (.tail _ hp))))
  have q3' : ∀ p ∈ rest, p.1 ≠ L' + 1 + 1 + 1 := fun p hp => Nat.ne_of_lt (Nat.lt_succ_of_lt (Nat.lt_succ_of_lt (Nat.lt_succ_of_lt (l1 p (.tail _ hp)))))
  have q4' : @LT.lt Nat _ 65 L' := l1 _ (.head _)
  k_steps
  refine ⟨?_⟩
  rw [hD]
  rename News _ _ _ _ => N1
  k_dflt (refine' KMa.mul (ws := List.replicate D (.int 0 tk')) ?k1 N1 ?k3 ?k4 ?k5 ?k6 ?k7 ?_)
  case k1 => k_asm
  case k3 => exact PySem.IsL.isList (n := 0) (N1 _ (.head _)).1
  case k4 => omega
  case k5 => omega
  case k6 => simp; omega
  case k7 => simp [List.flatten_replicate_singleton]
  intro dg h2 F2 N2 hlt
  have hlt' := allLt_of hlt
  simp only [AllLt, and_true] at hlt'
  k_steps
  rotate_left
  · exfalso; omega
  rename_i oA dA f1 ct1 dc1 hh1 tk1 lc1 hh2 oI F3 N3 dI hx0
  refine ⟨?_⟩
  refine callWith_F (FnAt.of N3 (.head _)) ?_
  k_steps
  refine ⟨?_⟩
  refine len_list (PySem.IsL.isList (n := 0) (N3 (dg, listOf (List.replicate D (Value.int 0 tk')).toArray 0) (by exact .tail _ (.head _))).1) (by simp; omega) ?_
  rw [List.size_toArray, List.length_replicate]
  k_steps
  refine ⟨?_⟩
  refine ⟨FnAt.of N3 (.head _), ?_⟩
  (try dsimp only [List.nil_append])
  have N4 : News g' L' hh2 ((dg, listOf (List.replicate D (Value.int 0 tk')).toArray 0) :: (f1, fnMade (Str.ofString "inner") q1 (nestA 10 1) (nestB 10 1) (nestS 10 1) [(Str.ofString "n", L' + 1), (Str.ofString "inner", L' + 1 + 1 + 1), (Str.ofString "a_digits", L' + 1 + 1)] dc1 ((mg (Str.ofString "__name__")).getD Value.none) c0 ct1) :: (L' + 1 + 1 + 1, oI) :: (L' + 1 + 1, oA) :: (L' + 1, o3) :: (65, tabObj #[rawInt (75 : Nat), rawInt (4 : Nat), .ref c0]) :: rest) := by
    intro p hp
    rcases List.mem_cons.mp hp with rfl | hp
    · exact N3 _ (.tail _ (.head _))
    rcases List.mem_cons.mp hp with rfl | hp
    · exact N3 _ (.head _)
    exact N3 _ (.tail _ (.tail _ (.tail _ hp)))
  clear N3
  have rne : ∀ p ∈ (f1, fnMade (Str.ofString "inner") q1 (nestA 10 1) (nestB 10 1) (nestS 10 1) [(Str.ofString "n", L' + 1), (Str.ofString "inner", L' + 1 + 1 + 1), (Str.ofString "a_digits", L' + 1 + 1)] dc1 ((mg (Str.ofString "__name__")).getD Value.none) c0 ct1) :: (L' + 1 + 1 + 1, oI) :: (L' + 1 + 1, oA) :: (L' + 1, o3) :: (65, tabObj #[rawInt (75 : Nat), rawInt (4 : Nat), .ref c0]) :: rest, p.1 ≠ dg := by
    intro p hp
    rcases List.mem_cons.mp hp with rfl | hp
    · exact (Nat.ne_of_lt lc1.1).symm
    rcases List.mem_cons.mp hp with rfl | hp
    · exact Nat.ne_of_lt hlt'.2.1
    rcases List.mem_cons.mp hp with rfl | hp
    · exact Nat.ne_of_lt hlt'.2.2.1
    rcases List.mem_cons.mp hp with rfl | hp
    · exact Nat.ne_of_lt hlt'.2.2.2.1
    rcases List.mem_cons.mp hp with rfl | hp
    · exact Nat.ne_of_lt hlt'.2.2.2.2.1
    exact Nat.ne_of_lt (hlt p (.tail _ (.tail _ (.tail _ (.tail _ (.tail _ hp))))))
  k_dflt (refine' inner1_c D (Lo := 0) (Hi := D) (ns := List.replicate D 0) ?k1 ?k2 ?k3 N4 ?k5 ?k6 ?k7 ?k8 (.head _) (.tail _ (.tail _ (.tail _ (.tail _ (.tail _ hc0))))) hc1 hc2 (.tail _ (.tail _ (.tail _ (.head _)))) d3 (.tail _ (.head _)) dI (.tail _ (.tail _ (.head _))) dA rne ?kI ?kLH ?kk0 ?kHi ?k88 hn2 ?kx0 hxx.out ?_)
  case k1 => k_asm
  case k2 => k_asm
  case k3 => k_asm
  case k5 => k_asm
  case k6 => rfl
  case k7 => show dp + 1 + D + 5 < recursionLimit; omega
  case k8 => show un + 3 + 8 * D + 40 < cLine; omega
  case kI => exact ints_rep D
  case kLH => omega
  case kk0 => exact hD0
  case kHi => rw [List.length_replicate]; exact Nat.le_refl _
  case k88 => rw [List.length_replicate]; exact hD8
  case kx0 => omega
  intro h5 tk5 vs5 ns5 F5 N5 hI5 hl5 hd5
  k_steps
  rename News _ _ _ _ => N6
  refine hQ dg vs5 ns5 (tabObj #[rawInt (75 : Nat), rawInt (4 : Nat), .ref c0]) [] _ _ (by assumption) ?_ ?_ ?_ ?_ hI5 ?_ ?_
  · intro p hp
    refine N6 p ?_
    rcases List.mem_cons.mp hp with rfl | hp
    · exact .head _
    rcases List.mem_cons.mp hp with rfl | hp
    · exact .tail _ (.tail _ (.tail _ (.tail _ (.tail _ (.head _)))))
    exact .tail _ (.tail _ (.tail _ (.tail _ (.tail _ (.tail _ hp)))))
  · exact .inr ⟨_, _, _, _, rfl, hc0, hc1, hc2⟩
  · intro q hq
    rcases List.mem_cons.mp hq with rfl | hq
    · exact ⟨hlt'.2.2.2.2.1, fun p hp => hlt p (.tail _ (.tail _ (.tail _ (.tail _ (.tail _ hp)))))⟩
    cases hq
  · intro q hq
    cases hq
  · rw [hl5, List.length_replicate]
  · intro i hi
    rw [hd5 i, if_pos ⟨Nat.zero_le _, hi⟩, Nat.sub_zero]

theorem i2d_c {w : World} {p : Program} {loose : List Str} {mean : ExcName → Option Value} {mg mb : Str → Option Value}
    {dp un : Nat} {gd : Option (List Code)} {cn : Str} {cs : Scope} {a : Addr} {ccd : Value} {cl : List (Str × Addr)} {outer : List Env} {A₀ : Around} {base h₀ : Heap} {L : Addr} {m : Str → Option Value} {rest : List (Addr × Obj)} {s : Shared} 
    {Q E : Value → Shared → Prop} {x : Int} {nn : Nat} {t1 t2 : Tok} {D : Nat} {tab : Obj}
    (B : Below A₀ base outer h₀) (F : Fr h₀ L s.heap m) (X : (Mine.hd.heap_39 w.params).In h₀) (N : News h₀ L s.heap ((65, tab) :: rest)) (T : Top p loose mean mg mb h₀) (hk : cs.kind = .function) (hd : dp + 20 < recursionLimit) (hu : un + 140 < cLine)
    (hrest : ∀ p ∈ rest, p.1 ≠ 65) (htab : TabSt q1 75 4 tab rest) (hx : 0 < x) (hn : 0 < nn) (hn2 : nn < 4194304) (hD : (((Builtin.Int.intBits x : Nat) : Int) + (nn : Int) - 1).fdiv (nn : Int) = (D : Int)) (hD0 : 0 < D) (hD8 : D ≤ 8) (hxD : x < 2 ^ (nn * D))
    (hQ : ∀ dg vs' ns' tab' ext h' tk', Fr h₀ L h' m → News h₀ L h' ((dg, listOf vs'.toArray 0) :: (65, tab') :: (ext ++ rest)) → TabSt q1 75 4 tab' (ext ++ rest) → (∀ q ∈ (dg, tab') :: ext, 65 < q.1 ∧ ∀ p ∈ rest, p.1 < q.1) → (∀ q ∈ ext, q.1 ≠ dg) →
      IntsAre vs' ns' → ns'.length = D → (∀ i, i < D → ns'.getD i 0 = dig x nn i) → Q (.ref dg) { s with heap := h', toks := tk' }) :
    wpAny (model PySem.Challenge.rw_op0091_01.row.prog w) (ktrTop dp un gd cn cs L a ccd cl outer) (call (.ref 70) [.int x t1, .int nn t2]) Q E s := by
  rcases htab with rfl | ⟨c, oc, vs, t, rfl, h1, h2, h3⟩
  · exact i2d_a B F X N T hk hd hu hrest hx hn hn2 hD hD0 hD8 hxD hQ (c0 := 0) (oc0 := tabObj #[]) (fs0 := #[]) (tq0 := 0)
  · exact i2d_b B F X N T hk hd hu hrest h1 h2 h3 hx hn hn2 hD hD0 hD8 hxD hQ
end Mine
end

section
open PySem PySem.W PyProof.Rows
set_option Elab.async false
set_option maxRecDepth 100000
set_option maxHeartbeats 1000000
namespace Mine
theorem calmInner2 : True := by
  w_top off
  (try walk1)
  all_goals trivial
abbrev q2 : Str := Str.ofString "_digits2int.<locals>.inner"
/-- the value of k digits from place lo on, base 2^n -/
def valD (ns : List Int) (n : Nat) : Nat → Nat → Int
  | _, 0 => 0
  | lo, k + 1 => ns.getD lo 0 + 2 ^ n * valD ns n (lo + 1) k
theorem valD_add (ns : List Int) (n : Nat) : ∀ j lo k : Nat, valD ns n lo (j + k) = valD ns n lo j + 2 ^ (j * n) * valD ns n (lo + j) k
  | 0, lo, k => by simp [valD]
  | j + 1, lo, k => by
    have e : j + 1 + k = (j + k) + 1 := by omega
    rw [e, valD, valD, valD_add ns n j (lo + 1) k, Int.mul_add, ← Int.mul_assoc, ← Int.pow_add]
    have e2 : n + j * n = (j + 1) * n := by rw [Nat.add_mul, Nat.one_mul, Nat.add_comm]
    have e3 : lo + 1 + j = lo + (j + 1) := by omega
    rw [e2, e3]
    omega
theorem valD_nonneg {ns : List Int} {n : Nat} (h : ∀ i, 0 ≤ ns.getD i 0) : ∀ lo k : Nat, 0 ≤ valD ns n lo k
  | _, 0 => Int.le_refl _
  | lo, k + 1 => Int.add_nonneg (h _) (Int.mul_nonneg (Int.le_of_lt (two_pos _)) (valD_nonneg h _ _))
theorem valD_lt {ns : List Int} {n : Nat} (hn : 0 < n) (h1 : ∀ i, ns.getD i 0 ≤ 15) : ∀ lo k : Nat, valD ns n lo k ≤ 16 * 2 ^ (n * k) - 16
  | _, 0 => by simp [valD]
  | lo, k + 1 => by
    have ih := valD_lt hn h1 (lo + 1) k
    have h2 := h1 lo
    have e1 : n * (k + 1) = n + n * k := by rw [Nat.mul_succ, Nat.add_comm]
    rw [valD, e1, Int.pow_add]
    have hp : (2 : Int) ≤ 2 ^ n := by
      obtain ⟨j, rfl⟩ : ∃ j, n = j + 1 := ⟨n - 1, by omega⟩
      have := two_pos j
      rw [Int.pow_succ]; omega
    have h3 : 2 ^ n * valD ns n (lo + 1) k ≤ 2 ^ n * (16 * 2 ^ (n * k) - 16) := Int.mul_le_mul_of_nonneg_left ih (by omega)
    have h4 : (2 : Int) ^ n * (16 * 2 ^ (n * k) - 16) = 16 * (2 ^ n * 2 ^ (n * k)) - 2 ^ n * 16 := by
      rw [Int.mul_sub, ← Int.mul_assoc, Int.mul_comm (2 ^ n) 16, Int.mul_assoc]
    omega
theorem valD_bits {ns : List Int} {n : Nat} (hn : 0 < n) (h0 : ∀ i, 0 ≤ ns.getD i 0) (h1 : ∀ i, ns.getD i 0 ≤ 15) (lo k : Nat) : Builtin.Int.intBits (valD ns n lo k) ≤ n * k + 4 := by
  refine intBits_le_iff.mpr ?_
  have a := valD_nonneg (n := n) h0 lo k
  have b := valD_lt hn h1 lo k
  have c : ((2 ^ (n * k + 4) : Nat) : Int) = 2 ^ (n * k) * 16 := by rw [Nat.pow_add]; push_cast; rfl
  have d : (((valD ns n lo k).natAbs : Nat) : Int) < ((2 ^ (n * k + 4) : Nat) : Int) := by rw [c]; omega
  exact Int.ofNat_lt.mp d

local macro_rules | `(tactic| walk_at "eval Name") => `(tactic| (k_here; k_dflt (refine' nameX_F ?N ?c ?m ?d ?_ ?a ?b; (case a => rfl); (case b => rfl); (case N => with_reducible assumption); (case c => rfl); (case m => with_reducible assumption); (case d => with_reducible assumption); k_whole)))
local macro_rules | `(tactic| walk_at "callWith ref") => `(tactic| (refine Stop.out ?_))
local macro_rules | `(tactic| walk_at "binaryOp Mult int int") => `(tactic| (k_here; k_dflt (refine' mul_to ?k1 ?k2 ?_; (case k1 => with_reducible assumption); (case k2 => with_reducible assumption); k_whole)))
local macro_rules | `(tactic| walk_at "binaryOp RShift int int") => `(tactic| (k_here; k_dflt (refine' rsh_to ?k1 ?k2 ?_; (case k1 => with_reducible assumption); (case k2 => omega); k_whole)))
local macro_rules | `(tactic| walk_at "binaryOp LShift int int") => `(tactic| (k_here; k_dflt (refine' lsh_to ?k1 ?k2 ?k3 ?_; (case k1 => with_reducible assumption); (case k2 => omega); (case k3 => with_reducible assumption); k_whole)))
local macro_rules | `(tactic| walk_at "subscriptTail") => `(tactic| (refine Stop.out ?_))
local macro_rules | `(tactic| walk_at "And") => `(tactic| (refine Stop.out ?_))

theorem inner2_c {w : World} {p : Program} {loose : List Str} {mean : ExcName → Option Value} {mg mb : Str → Option Value} : 
  ∀ (k : Nat) {dp un : Nat} {gd : Option (List Code)} {cn : Str} {cs : Scope} {a : Addr} {ccd : Value} {cl : List (Str × Addr)} {outer : List Env} {A₀ : Around} {base h₀ : Heap} {L : Addr} {m : Str → Option Value} {rest : List (Addr × Obj)} {s : Shared} 
    {Q E : Value → Shared → Prop} {f dg c' ca ci cc : Addr} {doc pm ctv : Value} {oc oa oi on : Obj} {fs : Array Value} {tq : Tok} {vs : List Value} {ns : List Int} {e : Nat} {nn : Nat} {tn : Tok} {Lo Hi : Nat} {t2 t3 : Tok},
    Below A₀ base outer h₀ → Fr h₀ L s.heap m → (Mine.hd.heap_39 w.params).In h₀ → News h₀ L s.heap rest → Top p loose mean mg mb h₀ → cs.kind = .function → dp + k + 5 < recursionLimit → un + 8 * k + 40 < cLine →
    (f, fnMade (Str.ofString "inner") q2 (nestA 11 0) (nestB 11 0) (nestS 11 0) [(Str.ofString "n", cc), (Str.ofString "inner", ci), (Str.ofString "digits", ca)] doc pm c' ctv) ∈ rest →
    (c', oc) ∈ rest → oc.data = .fields fs → fs[1]? = some (.str q2 tq) →
    (cc, on) ∈ rest → on.data = .cell (some (.int nn tn)) → (ci, oi) ∈ rest → oi.data = .cell (some (.ref f)) → (ca, oa) ∈ rest → oa.data = .cell (some (.ref dg)) →
    (dg, listOf vs.toArray e) ∈ rest → IntsAre vs ns → (∀ i, 0 ≤ ns.getD i 0) → (∀ i, ns.getD i 0 ≤ 15) → Lo + k = Hi → 0 < k → Hi ≤ ns.length → ns.length ≤ 8 → 0 < nn → nn < 4194304 →
    (∀ h' tk' t', Fr h₀ L h' m → News h₀ L h' rest → Q (.int (valD ns nn Lo k) t') { s with heap := h', toks := tk' }) →
    wpAny (model PySem.Challenge.rw_op0091_01.row.prog w) (ktrTop dp un gd cn cs L a ccd cl outer) (call (.ref f) [.int Lo t2, .int Hi t3]) Q E s := by
  k_fill
  intro k
  induction k using Nat.strongRecOn with
  | ind k ih =>
  intro dp un gd cn cs a ccd cl outer A₀ base h₀ L m rest s Q E f dg c' ca ci cc doc pm ctv oc oa oi on fs tq vs ns e nn tn Lo Hi t2 t3 B F X N T hk hd hu hf hc hc1 hc2 hn1 hn2 hi1 hi2 ha1 ha2 hdg hI hpos h15 hLH hk0 hHi h8 hnn0 hnn hQ
  obtain ⟨M, hM⟩ : ∃ M, M = (Lo + Hi) / 2 := ⟨_, rfl⟩
  obtain ⟨S, hS⟩ : ∃ S, S = (M - Lo) * nn := ⟨_, rfl⟩
  have z1 : ((Lo : Int) + (Hi : Int)).fdiv (2 ^ (Int.toNat 1)) = (M : Int) := by
    rw [show ((2 : Int) ^ (Int.toNat 1)) = 2 from rfl, Int.fdiv_eq_ediv_of_nonneg _ (by decide)]
    omega
  have z2 : ((M : Int) - (Lo : Int)) * (nn : Int) = (S : Int) := by
    have e : (M : Int) - (Lo : Int) = ((M - Lo : Nat) : Int) := by omega
    rw [e, hS]; push_cast; rfl
  have z2' : IntMulOk ((M : Int) - (Lo : Int)) (nn : Int) := IntMulOk.of_le (m := 64) (n := 64) (intBits_le_64 (by omega) (by omega)) (intBits_le_64 (by omega) (by omega)) (by decide)
  obtain ⟨U, hU⟩ : ∃ U, U = valD ns nn M (Hi - M) := ⟨_, rfl⟩
  obtain ⟨V, hV⟩ : ∃ V, V = U * 2 ^ S := ⟨_, rfl⟩
  have z4 : U * 2 ^ ((S : Int).toNat) = V := by rw [Int.toNat_natCast, hV]
  have hSle : S ≤ nn * k := by
    rw [hS, Nat.mul_comm]
    exact Nat.mul_le_mul_left _ (by omega)
  have hnk : nn * k ≤ 4194304 * 8 := Nat.mul_le_mul (by omega) (by omega)
  have hnk2 : nn * (Hi - M) ≤ 4194304 * 8 := Nat.mul_le_mul (by omega) (by omega)
  have z6 : (Builtin.Int.intBits U : Int) + (S : Int) ≤ 2 ^ 27 := by
    have h1 := valD_bits hnn0 hpos h15 M (Hi - M)
    rw [← hU] at h1
    omega
  have hVx := Stop.mk hV
  clear hV
  refine wpAny_call ?_
  k_dflt (refine' code_nest ?k1 ?k2 ?k3 ?k4 ?k5 ?kA ?kF ?kK ?k6 ?k7 ?k8 ?k9 ?kB ?_ ?c2 ?c3 ?c4 ?c5; (case kA => exact rfl); (case kF => exact rfl); (case kK => assumption); (case k1 => k_asm); (case k2 => k_asm); (case k3 => k_asm); (case k4 => k_asm); (case k5 => k_asm); (case k6 => exact hf); (case k7 => exact codeRec_news N hc hc1 hc2); (case k8 => show dp < recursionLimit; omega); (case k9 => exact BindsTo.of_eq rfl); (case c5 => decide +kernel); (case kB => exact locs rfl); (case c2 => exact rfl); (case c3 => exact rfl); (case c4 => exact rfl); k_whole)
  intro g' L' h' FG' F' N' B' X' T'
  (try dsimp only)
  k_fold
  replace F' : Fr g' L' h' (fun y => List.lookup y [(Str.ofString "R", .int Hi t3), (Str.ofString "L", .int Lo t2)]) := F'
  have eB : nestB 11 0 = nestB 11 0 := rfl
  conv at eB => rhs; whnf
  have eS : nestS 11 0 = nestS 11 0 := rfl
  conv at eS => rhs; whnf
  rw [eB, eS]
  clear eB eS
  refine wpAny_noRaise ?_
  k_steps
  · refine ⟨?_⟩
    rename (_ = (Hi : Int)) => hLH1
    have hk1 : k = 1 := by omega
    refine ksa_sub N' hdg hI (by omega) (by omega) (by omega) ?_
    intro tv
    k_steps
    have e : valD ns nn Lo k = ns.getD (Lo : Int).toNat 0 := by rw [hk1, Int.toNat_natCast]; simp [valD]
    rw [e] at hQ
    exact hQ _ _ _ (by assumption) (by assumption)
  · refine ⟨?_⟩
    rename ((_ : Int) ≠ (Hi : Int)) => hLH1
    have hMlo : Lo < M := by omega
    have hMhi : M < Hi := by omega
    clear hM
    refine callWith_F (FnAt.of (by assumption) hf) ?_
    k_steps
    refine ⟨?_⟩
    refine ⟨FnAt.of (by assumption) hf, ?_⟩
    (try dsimp only [List.nil_append])
    k_dflt (refine' ih (Hi - M) ?hlt1 (Lo := M) (Hi := Hi) ?k1 ?k2 ?k3 ?k4 ?k5 ?k6 ?k7 ?k8 hf hc hc1 hc2 hn1 hn2 hi1 hi2 ha1 ha2 hdg hI hpos h15 ?kLH ?kk0 ?kHi h8 hnn0 hnn ?_)
    case hlt1 => omega
    case k1 => k_asm
    case k2 => k_asm
    case k3 => k_asm
    case k4 => k_asm
    case k5 => k_asm
    case k6 => rfl
    case k7 => show dp + 1 + (Hi - M) + 5 < recursionLimit; omega
    case k8 => show un + 3 + 8 * (Hi - M) + 40 < cLine; omega
    case kLH => omega
    case kk0 => omega
    case kHi => omega
    intro h3 tk3 t3' F3 N3
    rw [← hU]
    k_steps
    refine ⟨?_⟩
    refine callWith_F (FnAt.of (by assumption) hf) ?_
    k_steps
    refine ⟨?_⟩
    refine ⟨FnAt.of (by assumption) hf, ?_⟩
    (try dsimp only [List.nil_append])
    k_dflt (refine' ih (M - Lo) ?hlt2 (Lo := Lo) (Hi := M) ?k1 ?k2 ?k3 ?k4 ?k5 ?k6 ?k7 ?k8 hf hc hc1 hc2 hn1 hn2 hi1 hi2 ha1 ha2 hdg hI hpos h15 ?kLH ?kk0 ?kHi h8 hnn0 hnn ?_)
    case hlt2 => omega
    case k1 => k_asm
    case k2 => k_asm
    case k3 => k_asm
    case k4 => k_asm
    case k5 => k_asm
    case k6 => rfl
    case k7 => show dp + 1 + (M - Lo) + 5 < recursionLimit; omega
    case k8 => show un + 3 + 8 * (M - Lo) + 40 < cLine; omega
    case kLH => omega
    case kk0 => omega
    case kHi => omega
    intro h4 tk4 t4' F4 N4
    k_steps
    have e : V + valD ns nn Lo (M - Lo) = valD ns nn Lo k := by
      have e1 : k = (M - Lo) + (Hi - M) := by omega
      have e2 : Lo + (M - Lo) = M := by omega
      rw [hVx.out, hU, hS, e1, valD_add, e2, Int.mul_comm]
      omega
    rw [e]
    exact hQ _ _ _ (by assumption) (by assumption)
end Mine
end

section
open PySem PySem.W PyProof.Rows
set_option Elab.async false
set_option maxRecDepth 100000
set_option maxHeartbeats 1000000
namespace Mine
theorem calmD2i : True := by
  w_top off
  (try walk1)
  all_goals trivial
theorem allLt_get {d : Nat} {l : List (Addr × Obj)} (h : AllLt d l) : ∀ p ∈ l, p.1 < d := by
  induction l with
  | nil => intro p hp; exact absurd hp List.not_mem_nil
  | cons x r ih =>
    intro p hp
    rcases List.mem_cons.mp hp with e | hp
    · rw [e]; exact h.1
    · exact ih h.2 p hp
local macro_rules | `(tactic| k_all) => `(tactic| assumption)
local macro_rules | `(tactic| walk_at "call builtin:len") => `(tactic| (refine Stop.out ?_))
local macro_rules | `(tactic| walk_at "callWith ref") => `(tactic| (refine Stop.out ?_))
local macro_rules | `(tactic| walk_at "And") => `(tactic| (refine Stop.out ?_))
local macro_rules | `(tactic| walk_at "truthy ref") => `(tactic| (refine Stop.out ?_))

theorem d2i_a {w : World} {p : Program} {loose : List Str} {mean : ExcName → Option Value} {mg mb : Str → Option Value} : 
  ∀ {dp un : Nat} {gd : Option (List Code)} {cn : Str} {cs : Scope} {a : Addr} {ccd : Value} {cl : List (Str × Addr)} {outer : List Env} {A₀ : Around} {base h₀ : Heap} {L : Addr} {m : Str → Option Value} {rest : List (Addr × Obj)} {s : Shared} 
    {Q E : Value → Shared → Prop} {nn : Nat} {t2 : Tok} {dg : Addr} {vs : List Value} {ns : List Int} {e : Nat} {c0 : Addr} {oc0 : Obj} {fs0 : Array Value} {tq0 : Tok},
    Below A₀ base outer h₀ → Fr h₀ L s.heap m → (Mine.hd.heap_39 w.params).In h₀ → News h₀ L s.heap ((72, tabObj #[]) :: rest) → Top p loose mean mg mb h₀ → cs.kind = .function → dp + 20 < recursionLimit → un + 140 < cLine →
    (∀ p ∈ rest, p.1 ≠ 72) →  (dg, listOf vs.toArray e) ∈ rest → IntsAre vs ns → (∀ i, 0 ≤ ns.getD i 0) → (∀ i, ns.getD i 0 ≤ 15) → 0 < ns.length → ns.length ≤ 8 → 0 < nn → nn < 4194304 →
    (∀ tab' ext h' tk' t', Fr h₀ L h' m → News h₀ L h' ((72, tab') :: (ext ++ rest)) → TabSt q2 90 4 tab' (ext ++ rest) → (∀ q ∈ ext, 72 < q.1 ∧ ∀ p ∈ rest, p.1 < q.1) →
      Q (.int (valD ns nn 0 ns.length) t') { s with heap := h', toks := tk' }) →
    wpAny (model PySem.Challenge.rw_op0091_01.row.prog w) (ktrTop dp un gd cn cs L a ccd cl outer) (call (.ref 77) [.ref dg, .int nn t2]) Q E s := by
  k_fill
  intro dp un gd cn cs a ccd cl outer A₀ base h₀ L m rest s Q E nn t2 dg vs ns e c0 oc0 fs0 tq0 B F X N T hk hd hu hrest hdg hI hpos h15 hl0 hl8 hn hn2 hQ
  refine wpAny_call ?_
  k_dflt (refine' code_defC ?k1 ?k2 ?k3 ?k4 ?k5 ?kA ?kF ?kK ?k6 ?k7 ?k8 ?k9 ?kB ?kD ?_ ?c2 ?c3 ?c4; (case kA => exact rfl); (case kF => exact rfl); (case kK => assumption); (case k1 => k_asm); (case k2 => k_asm); (case k3 => k_asm); (case k4 => k_asm); (case k5 => k_asm); (case k6 => k_is); (case k7 => k_is); (case k8 => ktr_room); (case k9 => exact BindsTo.of_eq rfl); (case kB => exact rfl); (case kD => decide +kernel); (case c2 => exact rfl); (case c3 => exact rfl); (case c4 => exact rfl); k_whole)
  intro g' L' h' tk' cells' FG' F' N' Y' B' X' T' l1
  (try dsimp only)
  k_fold
  obtain ⟨o1, o2, o3, hE, d1, d2, d3⟩ := CellsAre.three Y'
  subst hE
  clear Y'
  simp only [List.cons_append, List.nil_append] at N'
  have C' := codeHd_of_K (c := 76) (P := 72) X' (by kernel_rfl)
  replace d1 : o1.data = .cell none := d1
  replace d2 : o2.data = .cell (some (.int nn t2)) := d2
  replace d3 : o3.data = .cell (some (.ref dg)) := d3
  refine wpAny_noRaise ?_
  have q1' : ∀ p ∈ rest, p.1 ≠ L' + 1 := fun p hp => Nat.ne_of_lt (Nat.lt_succ_of_lt (l1 p (.tail _ hp)))
  have q2' : ∀ p ∈ rest, p.1 ≠ L' + 1 + 1 := fun p hp => Nat.ne_of_lt (Nat.lt_succ_of_lt (Nat.lt_succ_of_lt (l1 p (.tail _ hp))))
  have q3' : ∀ p ∈ rest, p.1 ≠ L' + 1 + 1 + 1 := fun p hp => Nat.ne_of_lt (Nat.lt_succ_of_lt (Nat.lt_succ_of_lt (Nat.lt_succ_of_lt (l1 p (.tail _ hp)))))
  have q4' : @LT.lt Nat _ 72 L' := l1 _ (.head _)
  k_steps
  rename_i f1 c1 oc1 fs1 tq1 ct1 dc1 hh1 tk1 e1 e2 lc1 lc2 hh2 oI F3 N3 dI
  have hvl : vs.length = ns.length := hI.length
  have hL : hh2.IsList dg vs.toArray := PySem.IsL.isList (n := e) (N3 (dg, listOf vs.toArray e) ((.tail _ (.tail _ (.tail _ (.tail _ (.tail _ (.tail _ (hdg))))))))).1
  refine ⟨?_⟩
  refine wpAny_truthy_list hL (by simp; omega) ?_
  have hne : (!vs.toArray.isEmpty) = true := by
    cases vs with
    | nil => simp at hvl; omega
    | cons _ _ => rfl
  rw [hne]
  simp only [if_true]
  k_steps
  refine ⟨?_⟩
  refine callWith_F (FnAt.of N3 (.head _)) ?_
  k_steps
  refine ⟨?_⟩
  refine len_list hL (by simp; omega) ?_
  rw [List.size_toArray, hvl]
  k_steps
  refine ⟨?_⟩
  refine ⟨FnAt.of N3 (.head _), ?_⟩
  (try dsimp only [List.nil_append])
  have N4 : News g' L' hh2 ((f1, fnMade (Str.ofString "inner") q2 (nestA 11 0) (nestB 11 0) (nestS 11 0) [(Str.ofString "n", L' + 1 + 1), (Str.ofString "inner", L' + 1 + 1 + 1), (Str.ofString "digits", L' + 1)] dc1 ((mg (Str.ofString "__name__")).getD Value.none) c1 ct1) :: (c1, oc1) :: (L' + 1 + 1 + 1, oI) :: (L' + 1 + 1, o2) :: (L' + 1, o3) :: (72, tabObj #[rawInt (90 : Nat), rawInt (4 : Nat), .ref c1]) :: rest) := N3
  clear N3
  k_dflt (refine' inner2_c ns.length (Lo := 0) (Hi := ns.length) (ns := ns) (vs := vs) ?k1 ?k2 ?k3 N4 ?k5 ?k6 ?k7 ?k8 (.head _) (.tail _ (.head _)) e1 e2 (.tail _ (.tail _ (.tail _ (.head _)))) d2 (.tail _ (.tail _ (.head _))) dI (.tail _ (.tail _ (.tail _ (.tail _ (.head _))))) d3 ((.tail _ (.tail _ (.tail _ (.tail _ (.tail _ (.tail _ (hdg)))))))) hI hpos h15 ?kLH hl0 ?kHi hl8 hn hn2 ?_)
  case k1 => k_asm
  case k2 => k_asm
  case k3 => k_asm
  case k5 => k_asm
  case k6 => rfl
  case k7 => show dp + 1 + ns.length + 5 < recursionLimit; omega
  case k8 => show un + 3 + 8 * ns.length + 40 < cLine; omega
  case kLH => omega
  case kHi => exact Nat.le_refl _
  intro h5 tk5 t5 F5 N5
  k_steps
  rename News _ _ _ _ => N6
  refine hQ (tabObj #[rawInt (90 : Nat), rawInt (4 : Nat), .ref c1]) [(c1, oc1)] _ _ _ (by assumption) ?_ ?_ ?_
  · intro p hp
    refine N6 p ?_
    rcases List.mem_cons.mp hp with rfl | hp
    · exact .tail _ (.tail _ (.tail _ (.tail _ (.tail _ (.head _)))))
    rcases List.mem_cons.mp hp with rfl | hp
    · exact .tail _ (.head _)
    exact .tail _ (.tail _ (.tail _ (.tail _ (.tail _ (.tail _ hp)))))
  · exact .inr ⟨_, _, _, _, rfl, .head _, e1, e2⟩
  · intro q hq
    rcases List.mem_cons.mp hq with rfl | hq
    · exact ⟨lc1.2.2.2.1, fun p hp => allLt_get lc1.2.2.2.2 p hp⟩
    cases hq

theorem d2i_b {w : World} {p : Program} {loose : List Str} {mean : ExcName → Option Value} {mg mb : Str → Option Value} : 
  ∀ {dp un : Nat} {gd : Option (List Code)} {cn : Str} {cs : Scope} {a : Addr} {ccd : Value} {cl : List (Str × Addr)} {outer : List Env} {A₀ : Around} {base h₀ : Heap} {L : Addr} {m : Str → Option Value} {rest : List (Addr × Obj)} {s : Shared} 
    {Q E : Value → Shared → Prop} {nn : Nat} {t2 : Tok} {dg : Addr} {vs : List Value} {ns : List Int} {e : Nat} {c0 : Addr} {oc0 : Obj} {fs0 : Array Value} {tq0 : Tok},
    Below A₀ base outer h₀ → Fr h₀ L s.heap m → (Mine.hd.heap_39 w.params).In h₀ → News h₀ L s.heap ((72, tabObj #[rawInt (90 : Nat), rawInt (4 : Nat), .ref c0]) :: rest) → Top p loose mean mg mb h₀ → cs.kind = .function → dp + 20 < recursionLimit → un + 140 < cLine →
    (∀ p ∈ rest, p.1 ≠ 72) → (c0, oc0) ∈ rest → oc0.data = .fields fs0 → fs0[1]? = some (.str q2 tq0) → (dg, listOf vs.toArray e) ∈ rest → IntsAre vs ns → (∀ i, 0 ≤ ns.getD i 0) → (∀ i, ns.getD i 0 ≤ 15) → 0 < ns.length → ns.length ≤ 8 → 0 < nn → nn < 4194304 →
    (∀ tab' ext h' tk' t', Fr h₀ L h' m → News h₀ L h' ((72, tab') :: (ext ++ rest)) → TabSt q2 90 4 tab' (ext ++ rest) → (∀ q ∈ ext, 72 < q.1 ∧ ∀ p ∈ rest, p.1 < q.1) →
      Q (.int (valD ns nn 0 ns.length) t') { s with heap := h', toks := tk' }) →
    wpAny (model PySem.Challenge.rw_op0091_01.row.prog w) (ktrTop dp un gd cn cs L a ccd cl outer) (call (.ref 77) [.ref dg, .int nn t2]) Q E s := by
  k_fill
  intro dp un gd cn cs a ccd cl outer A₀ base h₀ L m rest s Q E nn t2 dg vs ns e c0 oc0 fs0 tq0 B F X N T hk hd hu hrest hc0 hc1 hc2 hdg hI hpos h15 hl0 hl8 hn hn2 hQ
  refine wpAny_call ?_
  k_dflt (refine' code_defC ?k1 ?k2 ?k3 ?k4 ?k5 ?kA ?kF ?kK ?k6 ?k7 ?k8 ?k9 ?kB ?kD ?_ ?c2 ?c3 ?c4; (case kA => exact rfl); (case kF => exact rfl); (case kK => assumption); (case k1 => k_asm); (case k2 => k_asm); (case k3 => k_asm); (case k4 => k_asm); (case k5 => k_asm); (case k6 => k_is); (case k7 => k_is); (case k8 => ktr_room); (case k9 => exact BindsTo.of_eq rfl); (case kB => exact rfl); (case kD => decide +kernel); (case c2 => exact rfl); (case c3 => exact rfl); (case c4 => exact rfl); k_whole)
  intro g' L' h' tk' cells' FG' F' N' Y' B' X' T' l1
  (try dsimp only)
  k_fold
  obtain ⟨o1, o2, o3, hE, d1, d2, d3⟩ := CellsAre.three Y'
  subst hE
  clear Y'
  simp only [List.cons_append, List.nil_append] at N'
  have C' := codeHd_of_K (c := 76) (P := 72) X' (by kernel_rfl)
  replace d1 : o1.data = .cell none := d1
  replace d2 : o2.data = .cell (some (.int nn t2)) := d2
  replace d3 : o3.data = .cell (some (.ref dg)) := d3
  refine wpAny_noRaise ?_
  have q1' : ∀ p ∈ rest, p.1 ≠ L' + 1 := fun p hp => Nat.ne_of_lt (Nat.lt_succ_of_lt (l1 p (.tail _ hp)))
  have q2' : ∀ p ∈ rest, p.1 ≠ L' + 1 + 1 := fun p hp => Nat.ne_of_lt (Nat.lt_succ_of_lt (Nat.lt_succ_of_lt (l1 p (.tail _ hp))))
  have q3' : ∀ p ∈ rest, p.1 ≠ L' + 1 + 1 + 1 := fun p hp => Nat.ne_of_lt (Nat.lt_succ_of_lt (Nat.lt_succ_of_lt (Nat.lt_succ_of_lt (l1 p (.tail _ hp)))))
  have q4' : @LT.lt Nat _ 72 L' := l1 _ (.head _)
  k_steps
  rename_i f1 ct1 dc1 hh1 tk1 lc1 hh2 oI F3 N3 dI
  have hvl : vs.length = ns.length := hI.length
  have hL : hh2.IsList dg vs.toArray := PySem.IsL.isList (n := e) (N3 (dg, listOf vs.toArray e) ((.tail _ (.tail _ (.tail _ (.tail _ (.tail _ (hdg)))))))).1
  refine ⟨?_⟩
  refine wpAny_truthy_list hL (by simp; omega) ?_
  have hne : (!vs.toArray.isEmpty) = true := by
    cases vs with
    | nil => simp at hvl; omega
    | cons _ _ => rfl
  rw [hne]
  simp only [if_true]
  k_steps
  refine ⟨?_⟩
  refine callWith_F (FnAt.of N3 (.head _)) ?_
  k_steps
  refine ⟨?_⟩
  refine len_list hL (by simp; omega) ?_
  rw [List.size_toArray, hvl]
  k_steps
  refine ⟨?_⟩
  refine ⟨FnAt.of N3 (.head _), ?_⟩
  (try dsimp only [List.nil_append])
  have N4 : News g' L' hh2 ((f1, fnMade (Str.ofString "inner") q2 (nestA 11 0) (nestB 11 0) (nestS 11 0) [(Str.ofString "n", L' + 1 + 1), (Str.ofString "inner", L' + 1 + 1 + 1), (Str.ofString "digits", L' + 1)] dc1 ((mg (Str.ofString "__name__")).getD Value.none) c0 ct1) :: (L' + 1 + 1 + 1, oI) :: (L' + 1 + 1, o2) :: (L' + 1, o3) :: (72, tabObj #[rawInt (90 : Nat), rawInt (4 : Nat), .ref c0]) :: rest) := N3
  clear N3
  k_dflt (refine' inner2_c ns.length (Lo := 0) (Hi := ns.length) (ns := ns) (vs := vs) ?k1 ?k2 ?k3 N4 ?k5 ?k6 ?k7 ?k8 (.head _) (.tail _ (.tail _ (.tail _ (.tail _ (.tail _ (hc0)))))) hc1 hc2 (.tail _ (.tail _ (.head _))) d2 (.tail _ (.head _)) dI (.tail _ (.tail _ (.tail _ (.head _)))) d3 ((.tail _ (.tail _ (.tail _ (.tail _ (.tail _ (hdg))))))) hI hpos h15 ?kLH hl0 ?kHi hl8 hn hn2 ?_)
  case k1 => k_asm
  case k2 => k_asm
  case k3 => k_asm
  case k5 => k_asm
  case k6 => rfl
  case k7 => show dp + 1 + ns.length + 5 < recursionLimit; omega
  case k8 => show un + 3 + 8 * ns.length + 40 < cLine; omega
  case kLH => omega
  case kHi => exact Nat.le_refl _
  intro h5 tk5 t5 F5 N5
  k_steps
  rename News _ _ _ _ => N6
  refine hQ (tabObj #[rawInt (90 : Nat), rawInt (4 : Nat), .ref c0]) [] _ _ _ (by assumption) ?_ ?_ ?_
  · intro p hp
    refine N6 p ?_
    rcases List.mem_cons.mp hp with rfl | hp
    · exact .tail _ (.tail _ (.tail _ (.tail _ (.head _))))
    exact .tail _ (.tail _ (.tail _ (.tail _ (.tail _ hp))))
  · exact .inr ⟨_, _, _, _, rfl, hc0, hc1, hc2⟩
  · intro q hq
    cases hq

theorem d2i_c {w : World} {p : Program} {loose : List Str} {mean : ExcName → Option Value} {mg mb : Str → Option Value}
    {dp un : Nat} {gd : Option (List Code)} {cn : Str} {cs : Scope} {a : Addr} {ccd : Value} {cl : List (Str × Addr)} {outer : List Env} {A₀ : Around} {base h₀ : Heap} {L : Addr} {m : Str → Option Value} {rest : List (Addr × Obj)} {s : Shared} 
    {Q E : Value → Shared → Prop} {nn : Nat} {t2 : Tok} {dg : Addr} {vs : List Value} {ns : List Int} {e : Nat} {tab : Obj}
    (B : Below A₀ base outer h₀) (F : Fr h₀ L s.heap m) (X : (Mine.hd.heap_39 w.params).In h₀) (N : News h₀ L s.heap ((72, tab) :: rest)) (T : Top p loose mean mg mb h₀) (hk : cs.kind = .function) (hd : dp + 20 < recursionLimit) (hu : un + 140 < cLine)
    (hrest : ∀ p ∈ rest, p.1 ≠ 72) (htab : TabSt q2 90 4 tab rest) (hdg : (dg, listOf vs.toArray e) ∈ rest) (hI : IntsAre vs ns) (hpos : ∀ i, 0 ≤ ns.getD i 0) (h15 : ∀ i, ns.getD i 0 ≤ 15) (hl0 : 0 < ns.length) (hl8 : ns.length ≤ 8) (hn : 0 < nn) (hn2 : nn < 4194304)
    (hQ : ∀ tab' ext h' tk' t', Fr h₀ L h' m → News h₀ L h' ((72, tab') :: (ext ++ rest)) → TabSt q2 90 4 tab' (ext ++ rest) → (∀ q ∈ ext, 72 < q.1 ∧ ∀ p ∈ rest, p.1 < q.1) →
      Q (.int (valD ns nn 0 ns.length) t') { s with heap := h', toks := tk' }) :
    wpAny (model PySem.Challenge.rw_op0091_01.row.prog w) (ktrTop dp un gd cn cs L a ccd cl outer) (call (.ref 77) [.ref dg, .int nn t2]) Q E s := by
  rcases htab with rfl | ⟨c, oc, vs', t, rfl, h1, h2, h3⟩
  · exact d2i_a B F X N T hk hd hu hrest hdg hI hpos h15 hl0 hl8 hn hn2 hQ (c0 := 0) (oc0 := tabObj #[]) (fs0 := #[]) (tq0 := 0)
  · exact d2i_b B F X N T hk hd hu hrest h1 h2 h3 hdg hI hpos h15 hl0 hl8 hn hn2 hQ
end Mine
end

section
open PySem PySem.W PyProof.Rows
set_option Elab.async false
set_option maxRecDepth 100000
set_option maxHeartbeats 1000000
namespace Mine
theorem calmDiv2 : True := by
  w_top off
  (try walk1)
  all_goals trivial
abbrev tupOf (vs : Array Value) : Obj := { cls := .type "tuple", data := .seq vs }
local macro_rules | `(tactic| walk_at "call builtin:divmod") => `(tactic| (refine Stop.out ?_))
theorem div2_c {w : World} {p : Program} {loose : List Str} {mean : ExcName → Option Value} {mg mb : Str → Option Value} : 
  ∀ {dp un : Nat} {gd : Option (List Code)} {cn : Str} {cs : Scope} {a : Addr} {ccd : Value} {cl : List (Str × Addr)} {outer : List Env} {A₀ : Around} {base h₀ : Heap} {L : Addr} {m : Str → Option Value} {news : List (Addr × Obj)} {s : Shared} 
    {Q E : Value → Shared → Prop} {V b : Int} {nn : Nat} {t1 t2 t3 : Tok},
    Below A₀ base outer h₀ → Fr h₀ L s.heap m → (Mine.hd.heap_39 w.params).In h₀ → News h₀ L s.heap news → Top p loose mean mg mb h₀ → cs.kind = .function → dp + 20 < recursionLimit → un + 140 < cLine →
    0 ≤ V → 0 < b → Builtin.Int.intBits V ≤ nn + 4000 → Builtin.divisionGoesByPylong V b = false →
    (∀ tp u1 u2 h' tk', Fr h₀ L h' m → News h₀ L h' ((tp, tupOf #[.int (V / b) u1, .int (V % b) u2]) :: news) → (∀ p ∈ news, p.1 < tp) → Q (.ref tp) { s with heap := h', toks := tk' }) →
    wpAny (model PySem.Challenge.rw_op0091_01.row.prog w) (ktrTop dp un gd cn cs L a ccd cl outer) (call (.ref 56) [.int V t1, .int b t2, .int nn t3]) Q E s := by
  k_fill
  intro dp un gd cn cs a ccd cl outer A₀ base h₀ L m news s Q E V b nn t1 t2 t3 B F X N T hk hd hu hV hb hbits hpy hQ
  refine wpAny_call ?_
  k_dflt ktr_enter
  refine wpAny_noRaise ?_
  k_steps
  refine ⟨?_⟩
  rename Fr _ _ _ _ => F1
  rename News _ _ _ _ => N1
  refine divmod_N F1 N1 (by omega) ?_ (.inl hpy)
  intro h2 F2 N2
  have e1 : V.fdiv b = V / b := Int.fdiv_eq_ediv_of_nonneg _ (by omega)
  have e2 : V.fmod b = V % b := Int.fmod_eq_emod_of_nonneg _ (by omega)
  rw [e1, e2] at N2
  k_steps
  exact hQ _ _ _ _ _ (by assumption) (by assumption) (fun p hp => Heap.lt_size (N1 p hp).1)
end Mine
end

section
open PySem PySem.W PyProof.Rows
set_option Elab.async false
namespace Mine
open Builtin.Int (intBits)
theorem intBits_pos {x : Int} (h : 0 < x) : intBits x = x.natAbs.log2 + 1 := by
  unfold Builtin.Int.intBits
  have : (x == 0) = false := by simp; omega
  rw [this]; rfl
theorem lt_two_bits {x : Int} (h : 0 ≤ x) : x < 2 ^ intBits x := by
  have h1 := intBits_le_iff.mp (Nat.le_refl (intBits x))
  have h2 : ((x.natAbs : Nat) : Int) < ((2 ^ intBits x : Nat) : Int) := Int.ofNat_lt.mpr h1
  have h3 : ((2 ^ intBits x : Nat) : Int) = 2 ^ intBits x := by push_cast; rfl
  omega
theorem bits_le {x : Int} {n : Nat} (h0 : 0 ≤ x) (h : x < 2 ^ n) : intBits x ≤ n := by
  refine intBits_le_iff.mpr ?_
  have h3 : ((2 ^ n : Nat) : Int) = 2 ^ n := by push_cast; rfl
  have h2 : ((x.natAbs : Nat) : Int) < ((2 ^ n : Nat) : Int) := by rw [h3]; omega
  exact Int.ofNat_lt.mp h2
/-- a quotient of twelve and less: few bits more than the divisor -/
theorem bits12 {V b : Int} (h0 : 0 ≤ V) (hb : 0 < b) (h : V ≤ 12 * b) : intBits V ≤ intBits b + 4 := by
  refine bits_le h0 ?_
  have h1 := lt_two_bits (Int.le_of_lt hb)
  rw [Int.pow_add]
  have : (2 : Int) ^ 4 = 16 := rfl
  rw [this]
  omega
theorem noPy {V b : Int} (h0 : 0 ≤ V) (hb : 0 < b) (h : V ≤ 12 * b) : Builtin.divisionGoesByPylong V b = false := by
  have h1 := bits12 h0 hb h
  rw [intBits_pos hb] at h1
  have key : (if V == 0 then 0 else V.natAbs.log2 / 30 + 1) ≤ (if b == 0 then 0 else b.natAbs.log2 / 30 + 1) + 150 := by
    have hb' : (b == 0) = false := by simp; omega
    rw [hb']
    simp only [Bool.false_eq_true, if_false]
    by_cases hv : (V == 0) = true
    · rw [if_pos hv]; omega
    · rw [if_neg hv]
      have hv' : 0 < V := by simp at hv; omega
      rw [intBits_pos hv'] at h1
      omega
  show (_ && decide ((if V == 0 then 0 else V.natAbs.log2 / 30 + 1) > (if b == 0 then 0 else b.natAbs.log2 / 30 + 1) + 150)) = false
  rw [decide_eq_false (Nat.not_lt.mpr key), Bool.and_false]
/-- one step of the long division -/
theorem long_step (x b : Int) (n j : Nat) (hb : 0 < b) :
    x / 2 ^ (n * j) = b * (2 ^ n * (x / 2 ^ (n * (j + 1)) / b)) + (x / 2 ^ (n * (j + 1)) % b * 2 ^ n + dig x n j) := by
  have e1 : x / 2 ^ (n * (j + 1)) = x / 2 ^ (n * j) / 2 ^ n := by
    rw [Int.ediv_ediv_of_nonneg (Int.le_of_lt (two_pos _)), ← Int.pow_add, ← Nat.mul_succ]
  unfold dig
  rw [e1]
  generalize x / 2 ^ (n * j) = y
  have h1 := Int.emod_add_mul_ediv y (2 ^ n)
  have h2 := Int.emod_add_mul_ediv (y / 2 ^ n) b
  generalize y / 2 ^ n = A at h1 h2 ⊢
  generalize hP : (2 : Int) ^ n = P at h1 ⊢
  have h3 : P * A = P * (A % b) + P * (b * (A / b)) := by rw [← Int.mul_add, h2]
  have h4 : P * (b * (A / b)) = b * (P * (A / b)) := by rw [← Int.mul_assoc, Int.mul_comm P b, Int.mul_assoc]
  have h5 : P * (A % b) = A % b * P := Int.mul_comm _ _
  omega
theorem long_div (x b : Int) (n j : Nat) (hb : 0 < b) :
    (x / 2 ^ (n * (j + 1)) % b * 2 ^ n + dig x n j) / b + 2 ^ n * (x / 2 ^ (n * (j + 1)) / b) = x / 2 ^ (n * j) / b := by
  conv => rhs; rw [long_step x b n j hb, Int.add_comm, Int.add_mul_ediv_left _ _ (Int.ne_of_gt hb)]
theorem long_mod (x b : Int) (n j : Nat) (hb : 0 < b) :
    (x / 2 ^ (n * (j + 1)) % b * 2 ^ n + dig x n j) % b = x / 2 ^ (n * j) % b := by
  conv => rhs; rw [long_step x b n j hb, Int.add_comm, Int.add_mul_emod_self_left]
theorem long_pos (x b : Int) (n j : Nat) (hb : 0 < b) : 0 ≤ x / 2 ^ (n * (j + 1)) % b * 2 ^ n + dig x n j := by
  have h1 := Int.emod_nonneg (x / 2 ^ (n * (j + 1))) (Int.ne_of_gt hb)
  have h2 : 0 ≤ dig x n j := Int.emod_nonneg _ (Int.ne_of_gt (two_pos _))
  exact Int.add_nonneg (Int.mul_nonneg h1 (Int.le_of_lt (two_pos _))) h2
theorem long_le (x b : Int) (n j : Nat) (hb : 0 < b) (hx : 0 ≤ x) : x / 2 ^ (n * (j + 1)) % b * 2 ^ n + dig x n j ≤ x := by
  have h1 := long_step x b n j hb
  have h2 : 0 ≤ b * (2 ^ n * (x / 2 ^ (n * (j + 1)) / b)) := Int.mul_nonneg (Int.le_of_lt hb) (Int.mul_nonneg (Int.le_of_lt (two_pos _)) (Int.ediv_nonneg (Int.ediv_nonneg hx (Int.le_of_lt (two_pos _))) (Int.le_of_lt hb)))
  have h3 : x / 2 ^ (n * j) ≤ x := Int.ediv_le_self _ hx
  omega
theorem valD_cons (q : Int) (rs : List Int) (n : Nat) : ∀ k lo : Nat, valD (q :: rs) n (lo + 1) k = valD rs n lo k
  | 0, _ => rfl
  | k + 1, lo => by
    rw [valD, valD, valD_cons q rs n k (lo + 1)]
    rfl
theorem valD_new (q : Int) (rs : List Int) (n k : Nat) : valD (q :: rs) n 0 (k + 1) = q + 2 ^ n * valD rs n 0 k := by
  rw [valD, valD_cons]; rfl
/-- how many digits -/
theorem digits_num {x b : Int} (hb : 0 < b) (hx : 0 < x) (h : x ≤ 12 * b) :
    ∃ D : Nat, (((intBits x : Nat) : Int) + ((intBits b : Nat) : Int) - 1).fdiv ((intBits b : Nat) : Int) = (D : Int) ∧ 0 < D ∧ D ≤ 8 ∧ x < 2 ^ (intBits b * D) := by
  have hn : 0 < intBits b := by rw [intBits_pos hb]; omega
  have hm : 0 < intBits x := by rw [intBits_pos hx]; omega
  have h12 := bits12 (Int.le_of_lt hx) hb h
  have hlt := lt_two_bits (Int.le_of_lt hx)
  generalize intBits b = n at hn h12 ⊢
  generalize intBits x = k at hm h12 hlt ⊢
  refine ⟨(k + n - 1) / n, ?_, ?_, ?_, ?_⟩
  · rw [Int.fdiv_eq_ediv_of_nonneg _ (by omega)]
    have e : (k : Int) + (n : Int) - 1 = ((k + n - 1 : Nat) : Int) := by omega
    rw [e]; push_cast; rfl
  · exact Nat.div_pos (by omega) hn
  · have h1 : (k + n - 1) / n * n ≤ k + n - 1 := Nat.div_mul_le_self _ _
    have h2 : (k + n - 1) / n < 9 := by
      refine Nat.div_lt_of_lt_mul ?_
      omega
    omega
  · have h1 : k ≤ n * ((k + n - 1) / n) := by
      have := Nat.div_add_mod (k + n - 1) n
      have := Nat.mod_lt (k + n - 1) hn
      omega
    refine Int.lt_of_lt_of_le hlt ?_
    obtain ⟨j, hj⟩ := Nat.exists_eq_add_of_le h1
    rw [hj, Int.pow_add]
    have p1 := two_pos k
    have p2 := two_pos j
    have : (2 : Int) ^ k * 1 ≤ 2 ^ k * 2 ^ j := Int.mul_le_mul_of_nonneg_left (by omega) (by omega)
    omega
end Mine
end

section
open PySem PySem.W PyProof.Rows
set_option Elab.async false
set_option maxRecDepth 100000
set_option maxHeartbeats 1000000
namespace Mine
theorem calmDmp : True := by
  w_top off
  (try walk1)
  all_goals trivial
theorem TabSt.mono {q : Str} {ln cl : Nat} {o : Obj} {r r' : List (Addr × Obj)} (h : TabSt q ln cl o r) (hs : ∀ p ∈ r, p ∈ r') : TabSt q ln cl o r' := by
  rcases h with h | ⟨c, oc, vs, t, h1, h2, h3⟩
  · exact .inl h
  · exact .inr ⟨c, oc, vs, t, h1, hs _ h2, h3⟩
theorem TabSt.keep {q : Str} {ln cl : Nat} {o : Obj} {r r' : List (Addr × Obj)} (h : TabSt q ln cl o r) (hs : ∀ c oc vs t, (c, oc) ∈ r → oc.data = .fields vs → vs[1]? = some (.str q t) → (c, oc) ∈ r') : TabSt q ln cl o r' := by
  rcases h with h | ⟨c, oc, vs, t, h1, h2, h3, h4⟩
  · exact .inl h
  · exact .inr ⟨c, oc, vs, t, h1, hs _ _ _ _ h2 h3 h4, h3, h4⟩
theorem TabSt.nostr {q : Str} {ln cl : Nat} {o : Obj} {r : List (Addr × Obj)} {vs : Array Value} {x : Str} {t : Tok} (h : TabSt q ln cl o r) (h1 : o.data = .fields vs) (h2 : vs[1]? = some (.str x t)) : False := by
  rcases h with rfl | ⟨c, oc, vs', t', rfl, _⟩
  · cases h1; cases h2
  · cases h1; cases h2
theorem ints_snoc {q : Int} {tq : Tok} : ∀ {vs : List Value} {ns : List Int}, IntsAre vs ns → IntsAre (vs ++ [.int q tq]) (ns ++ [q])
  | _, _, .nil => .cons q tq .nil
  | _, _, .cons i t h => .cons i t (ints_snoc h)
theorem ints_rev : ∀ {vs : List Value} {ns : List Int}, IntsAre vs ns → IntsAre vs.reverse ns.reverse
  | _, _, .nil => .nil
  | _, _, .cons i t h => by
    rw [List.reverse_cons, List.reverse_cons]
    exact ints_snoc (ints_rev h)
local macro_rules | `(tactic| k_all) => `(tactic| assumption)
local macro_rules | `(tactic| walk_at "call ref") => `(tactic| (refine Stop.out ?_))
local macro_rules | `(tactic| walk_at "pyIter ref") => `(tactic| (refine Stop.out ?_))
local macro_rules | `(tactic| walk_at "binaryOp LShift int int") => `(tactic| (k_here; k_dflt (refine' lsh_to ?k1 ?k2 ?k3 ?_; (case k1 => with_reducible assumption); (case k2 => omega); (case k3 => with_reducible assumption); k_whole)))
theorem dmp_c {w : World} {p : Program} {loose : List Str} {mean : ExcName → Option Value} {mg mb : Str → Option Value} : 
  ∀ {dp un : Nat} {gd : Option (List Code)} {cn : Str} {cs : Scope} {a : Addr} {ccd : Value} {cl : List (Str × Addr)} {outer : List Env} {A₀ : Around} {base h₀ : Heap} {L : Addr} {m : Str → Option Value} {rest : List (Addr × Obj)} {s : Shared} 
    {Q E : Value → Shared → Prop} {x b : Int} {t1 t2 : Tok} {t65 t72 : Obj},
    Below A₀ base outer h₀ → Fr h₀ L s.heap m → (Mine.hd.heap_39 w.params).In h₀ → News h₀ L s.heap ((65, t65) :: (72, t72) :: rest) → Top p loose mean mg mb h₀ → cs.kind = .function → dp + 40 < recursionLimit → un + 200 < cLine →
    (∀ p ∈ rest, p.1 ≠ 65) → (∀ p ∈ rest, p.1 ≠ 72) → TabSt q1 75 4 t65 rest → TabSt q2 90 4 t72 rest → 0 < x → 0 < b → x ≤ 12 * b → Builtin.Int.intBits b < 4194304 →
    (∀ tp u1 u2 t65' t72' ext h' tk', Fr h₀ L h' m → News h₀ L h' ((tp, tupOf #[.int (x / b) u1, .int (x % b) u2]) :: (65, t65') :: (72, t72') :: (ext ++ rest)) → TabSt q1 75 4 t65' (ext ++ rest) → TabSt q2 90 4 t72' (ext ++ rest) →
      (∀ q ∈ (tp, t65') :: ext, 72 < q.1 ∧ ∀ p ∈ rest, p.1 < q.1) → Q (.ref tp) { s with heap := h', toks := tk' }) →
    wpAny (model PySem.Challenge.rw_op0091_01.row.prog w) (ktrTop dp un gd cn cs L a ccd cl outer) (call (.ref 84) [.int x t1, .int b t2]) Q E s := by
  k_fill
  intro dp un gd cn cs a ccd cl outer A₀ base h₀ L m rest s Q E x b t1 t2 t65 t72 B F X N T hk hd hu hr65 hr72 ht65 ht72 hx hb h12 hbits hQ
  obtain ⟨D, hD, hD0, hD8, hxD⟩ := digits_num hb hx h12
  have hxx := Stop.mk hxD
  clear hxD
  have hnn : 0 < Builtin.Int.intBits b := by rw [intBits_pos hb]; omega
  refine wpAny_call ?_
  k_dflt ktr_enter
  refine wpAny_noRaise ?_
  k_steps
  refine ⟨?_⟩
  rename News _ _ _ _ => N1
  k_dflt (refine' i2d_c (rest := (72, t72) :: rest) ?k1 ?k2 ?k3 N1 ?k5 ?k6 ?k7 ?k8 ?kr ?kt hx hnn hbits hD hD0 hD8 hxx.out ?_)
  case k1 => k_asm
  case k2 => k_asm
  case k3 => k_asm
  case k5 => k_asm
  case k6 => rfl
  case k7 => show dp + 1 + 20 < recursionLimit; omega
  case k8 => show un + 3 + 140 < cLine; omega
  case kr =>
    intro p hp
    rcases List.mem_cons.mp hp with rfl | hp
    · exact (by decide : (72 : Nat) ≠ 65)
    · exact hr65 p hp
  case kt => exact ht65.mono fun p hp => .tail _ hp
  intro dg vs ns tab' ext h2 tk2 F2 N2 ht2 hnew hdgne hI hlen hdig
  clear N1
  k_steps
  rename_i qd hha lq hhb it hhc F3 N3 li
  refine ⟨?_⟩
  have hvl : vs.length = ns.length := hI.length
  have hit : hhc.IsRevIter it dg ((vs.length : Int) - 1) := ⟨_, (N3 _ (.head _)).1, rfl, rfl⟩
  refine wpAny_pyIter_revIter hit ?_
  have hL : hhc.IsList dg vs.toArray := PySem.IsL.isList (n := 0) (N3 _ (.tail _ (.tail _ (.head _)))).1
  have hdi : dg ≠ it := Nat.ne_of_lt li.2.1
  have lq2 := allLt_get lq.2.2
  have li2 := allLt_get li.2.2.2
  have hdgx : ∀ p ∈ ext ++ (72, t72) :: rest, p.1 ≠ dg := by
    intro p hp
    rcases List.mem_append.mp hp with h | h
    · exact hdgne p h
    · exact Nat.ne_of_lt ((hnew _ (.head _)).2 p h)
  have hx0 : x / 2 ^ (Builtin.Int.intBits b * D) = 0 := Int.ediv_eq_zero_of_lt (by omega) hxx.out
  have hqr : ∀ p ∈ (65, tab') :: (ext ++ (72, t72) :: rest), p.1 ≠ qd := by
    intro p hp
    rcases List.mem_cons.mp hp with rfl | hp
    · exact Nat.ne_of_lt lq.2.1
    · exact Nat.ne_of_lt (lq2 p hp)
  refine fw (σ := List Value × List Int × Nat × Int × Tok × Tok) (fun c => (qd, listOf c.1.toArray c.2.2.1) :: (65, tab') :: (ext ++ (72, t72) :: rest))
    (fun c => [(Str.ofString "b", .int b t2), (Str.ofString "n", .int (Builtin.Int.intBits b : Nat) c.2.2.2.2.1), (Str.ofString "r", .int c.2.2.2.1 c.2.2.2.2.2), (Str.ofString "q_digits", .ref qd)])
    (fun i c => i ≤ D ∧ IntsAre c.1 c.2.1.reverse ∧ c.2.1.length = i ∧ c.2.2.2.1 = x / 2 ^ (Builtin.Int.intBits b * (D - i)) % b ∧ valD c.2.1 (Builtin.Int.intBits b) 0 i = x / 2 ^ (Builtin.Int.intBits b * (D - i)) / b ∧ (∀ k, 0 ≤ c.2.1.getD k 0) ∧ (∀ k, c.2.1.getD k 0 ≤ 15))
    ([], [], 0, 0, ?tn, ?tr) (Walks.listRev rfl it dg hdi vs.toArray) (fun _ => rfl) ?hLf ?hwr ?hfp ?hst F3 N3 ?hn ?hk ?hp ?turn ?done
  case hLf =>
    intro hm
    rcases List.mem_cons.mp hm with e | hm
    · exact (N3 _ (.head _)).2.1 e.symm
    · exact (N3 _ (.tail _ (.tail _ (.head _)))).2.1 (List.mem_singleton.mp hm).symm
  case hwr =>
    intro p hp
    rw [List.mem_singleton.mp hp]
    exact (N3 _ (.head _)).2.2
  case hfp =>
    intro q hq hm
    have h1 : q.1 ≠ it ∧ q.1 ≠ dg := by
      rcases List.mem_cons.mp hq with rfl | hq
      · exact ⟨Nat.ne_of_lt li.1, (Nat.ne_of_lt lq.1).symm⟩
      rcases List.mem_cons.mp hq with rfl | hq
      · exact ⟨Nat.ne_of_lt li.2.2.1, Nat.ne_of_lt (hnew _ (.head _)).1⟩
      exact ⟨Nat.ne_of_lt (li2 q hq), hdgx q hq⟩
    rcases List.mem_cons.mp hm with e | hm
    · exact h1.1 e
    · exact h1.2 (List.mem_singleton.mp hm)
  case hst =>
    refine ⟨Nat.zero_le _, ?_, hL⟩
    have e : ((vs.toArray.size : Nat) : Int) - 1 - ((0 : Nat) : Int) = (vs.length : Int) - 1 := by simp
    rw [e]; exact hit
  case hn =>
    intro p hp
    rcases List.mem_cons.mp hp with rfl | hp
    · exact .tail _ (.head _)
    · exact .tail _ (.tail _ (.tail _ hp))
  case hk =>
    intro p hp
    simp only [List.mem_cons, List.not_mem_nil, or_false] at hp
    rcases hp with rfl | rfl | rfl | rfl <;> with_unfolding_all rfl
  case hp =>
    refine ⟨Nat.zero_le _, .nil, rfl, ?_, ?_, fun k => by simp, fun k => by simp⟩
    · rw [Nat.sub_zero, hx0]; simp
    · rw [Nat.sub_zero, hx0]; simp [valD]
  case turn =>
    rintro i ⟨vq, rs, e, r, tn, tr⟩ v u h4 tk4 own hi hv hoff ⟨i0, i1, i2, i3, i4, i5, i6⟩ F4 N4
    dsimp only at i0 i1 i2 i3 i4 i5 i6 F4 N4
    clear F3 N3
    have hsz : vs.toArray.size = D := by rw [List.size_toArray, hvl, hlen]
    rw [hsz] at hi hv
    have hj : D - 1 - i < D := by omega
    obtain ⟨tv, hvt⟩ := hI.get (D - 1 - i) (ns.getD (D - 1 - i) 0) (by
      have : D - 1 - i < ns.length := by omega
      simp [List.getD, this])
    have hve : v = .int (dig x (Builtin.Int.intBits b) (D - 1 - i)) tv := by
      rw [List.getElem?_toArray, hvt] at hv
      rw [← hdig _ hj]
      exact (Option.some.inj hv).symm
    subst hve
    have eDi : D - i = (D - 1 - i) + 1 := by omega
    rw [eDi] at i3 i4
    obtain ⟨R2, hR2⟩ : ∃ R2, R2 = r * 2 ^ Builtin.Int.intBits b := ⟨_, rfl⟩
    have z1 : r * 2 ^ ((Builtin.Int.intBits b : Nat) : Int).toNat = R2 := by rw [Int.toNat_natCast, hR2]
    have hr0 : 0 ≤ r := by rw [i3]; exact Int.emod_nonneg _ (Int.ne_of_gt hb)
    have hrb : r < b := by rw [i3]; exact Int.emod_lt_of_pos _ hb
    have hrbits : Builtin.Int.intBits r ≤ Builtin.Int.intBits b := bits_le hr0 (Int.lt_trans hrb (lt_two_bits (Int.le_of_lt hb)))
    have z2 : (Builtin.Int.intBits r : Int) + ((Builtin.Int.intBits b : Nat) : Int) ≤ 2 ^ 27 := by omega
    obtain ⟨V, hV⟩ : ∃ V, V = R2 + dig x (Builtin.Int.intBits b) (D - 1 - i) := ⟨_, rfl⟩
    have hVe : V = x / 2 ^ (Builtin.Int.intBits b * (D - 1 - i + 1)) % b * 2 ^ Builtin.Int.intBits b + dig x (Builtin.Int.intBits b) (D - 1 - i) := by rw [hV, hR2, i3]
    have hV0 : 0 ≤ V := by rw [hVe]; exact long_pos x b _ _ hb
    have hVx : V ≤ x := by rw [hVe]; exact long_le x b _ _ hb (by omega)
    have hVdiv : V / b + 2 ^ Builtin.Int.intBits b * (x / 2 ^ (Builtin.Int.intBits b * (D - 1 - i + 1)) / b) = x / 2 ^ (Builtin.Int.intBits b * (D - 1 - i)) / b := by rw [hVe]; exact long_div x b _ _ hb
    have hVmod : V % b = x / 2 ^ (Builtin.Int.intBits b * (D - 1 - i)) % b := by rw [hVe]; exact long_mod x b _ _ hb
    have hq0 : 0 ≤ V / b := Int.ediv_nonneg hV0 (Int.le_of_lt hb)
    have hq12 : V / b ≤ 12 := Int.ediv_le_of_le_mul hb (by omega)
    have hVb := bits12 hV0 hb (by omega)
    have hVp := noPy hV0 hb (by omega)
    have hs1 := Stop.mk hVdiv
    have hs2 := Stop.mk hVmod
    have hs3 := Stop.mk i3
    have hs4 := Stop.mk i4
    clear hVe hVdiv hVmod i3 i4 hR2 hx0
    simp only [List.cons_append] at N4
    have hown : ∀ p ∈ ext ++ (72, t72) :: rest ++ own, p.1 ≠ qd := by
      intro p hp
      rcases List.mem_append.mp hp with h | h
      · exact hqr p (.tail _ h)
      · exact hoff p h _ (.head _)
    k_steps
    refine ⟨?_⟩
    rw [← hV]
    rename News _ _ _ _ => N5
    k_dflt (refine' div2_c (nn := Builtin.Int.intBits b) ?k1 ?k2 ?k3 N5 ?k5 ?k6 ?k7 ?k8 hV0 hb ?kb hVp ?_)
    case k1 => k_asm
    case k2 => k_asm
    case k3 => k_asm
    case k5 => k_asm
    case k6 => rfl
    case k7 => show dp + 1 + 20 < recursionLimit; omega
    case k8 => show un + 3 + 140 < cLine; omega
    case kb => omega
    intro tp u1 u2 h5 tk5 F5 N6 hlt6
    have hlt7 := allLt_of hlt6
    simp only [AllLt] at hlt7
    k_steps
    rename News _ _ _ _ => N7
    rw [List.push_toArray] at N7
    refine FEnd.mk (vq ++ [.int (V / b) u1], (V / b) :: rs, e + 1, V % b, tn, u2) (by assumption) N7 ?hn ?ho ?hk ?hp
    case hn =>
      intro p hp
      rcases List.mem_cons.mp hp with rfl | hp
      · exact .tail _ (.head _)
      rcases List.mem_cons.mp hp with rfl | hp
      · exact .tail _ (.tail _ (.head _))
      exact .tail _ (.tail _ (.tail _ (List.mem_append_left _ hp)))
    case ho => exact fun p hp => .tail _ (.tail _ (.tail _ (List.mem_append_right _ hp)))
    case hk =>
      intro p hp
      simp only [List.mem_cons, List.not_mem_nil, or_false] at hp
      rcases hp with rfl | rfl | rfl | rfl <;> with_unfolding_all rfl
    case hp =>
      have eDi2 : D - (i + 1) = D - 1 - i := by omega
      refine ⟨by omega, ?_, ?_, ?_, ?_, ?_, ?_⟩
      · dsimp only; rw [List.reverse_cons]; exact ints_snoc i1
      · dsimp only; rw [List.length_cons, i2]
      · dsimp only; rw [eDi2]; exact hs2.out
      · dsimp only; rw [eDi2, valD_new, hs4.out]; exact hs1.out
      · intro k
        cases k with
        | zero => exact hq0
        | succ k => exact i5 k
      · intro k
        cases k with
        | zero => show V / b ≤ 15; omega
        | succ k => exact i6 k
  case done =>
    rintro ⟨vq, rs, e, r, tn, tr⟩ u h4 tk4 ⟨i0, i1, i2, i3, i4, i5, i6⟩ F4 N4
    dsimp only at i0 i1 i2 i3 i4 i5 i6 F4 N4
    have hsz : vs.toArray.size = D := by rw [List.size_toArray, hvl, hlen]
    rw [hsz] at i2 i3 i4
    rw [Nat.sub_self, Nat.mul_zero, Int.pow_zero, Int.ediv_one] at i3 i4
    clear F3 N3
    dsimp only
    have hvq : vq.length = D := by rw [i1.length, List.length_reverse, i2]
    k_steps
    show wpAny _ _ (call (Value.builtin "list.reverse") [Value.ref qd]) _ _ _
    refine kl_reverse (l := vq.reverse) F4 N4 rfl (Upd.head hqr) (by show vq.length ≤ sizeLine; rw [hvq, sizeLine_eq]; omega) ?_
    intro h5 F5 N5
    have hI5 : IntsAre vq.reverse rs := by
      have := ints_rev i1
      rwa [List.reverse_reverse] at this
    have hx1 := Stop.mk i3
    have hx2 := Stop.mk i4
    clear F4 N4 i3 i4
    k_steps
    refine ⟨?_⟩
    rename Fr _ _ _ _ => F6
    rename News _ _ _ _ => N6
    have N7 : News _ _ _ ((72, t72) :: ((qd, listOf vq.reverse.toArray e) :: (65, tab') :: (ext ++ rest))) := fun p hp => N6 p (by
      rcases List.mem_cons.mp hp with rfl | hp
      · exact .tail _ (.tail _ (List.mem_append_right _ (.head _)))
      rcases List.mem_cons.mp hp with rfl | hp
      · exact .head _
      rcases List.mem_cons.mp hp with rfl | hp
      · exact .tail _ (.head _)
      rcases List.mem_append.mp hp with hp | hp
      · exact .tail _ (.tail _ (List.mem_append_left _ hp))
      · exact .tail _ (.tail _ (List.mem_append_right _ (.tail _ hp))))
    clear N6
    have h72 : ∀ q ∈ ext, 72 < q.1 := fun q hq => (hnew q (.tail _ hq)).2 _ (.head _)
    k_dflt (refine' d2i_c (nn := Builtin.Int.intBits b) (ns := rs) ?k1 ?k2 ?k3 N7 ?k5 ?k6 ?k7 ?k8 ?kr ?kt (.head _) hI5 i5 i6 ?kl0 ?kl8 hnn hbits ?_)
    case k1 => k_asm
    case k2 => k_asm
    case k3 => k_asm
    case k5 => k_asm
    case k6 => rfl
    case k7 => show dp + 1 + 20 < recursionLimit; omega
    case k8 => show un + 3 + 140 < cLine; omega
    case kr =>
      intro p hp
      rcases List.mem_cons.mp hp with rfl | hp
      · exact (Nat.ne_of_lt (lq2 (72, t72) (List.mem_append_right _ (.head _)))).symm
      rcases List.mem_cons.mp hp with rfl | hp
      · exact (by decide : (65 : Nat) ≠ 72)
      rcases List.mem_append.mp hp with hp | hp
      · exact (Nat.ne_of_lt (h72 p hp)).symm
      · exact hr72 p hp
    case kt => exact ht72.mono fun p hp => .tail _ (.tail _ (List.mem_append_right _ hp))
    case kl0 => omega
    case kl8 => omega
    intro tab2 ext2 h7 tk7 t7 F7 N8 ht3 hnew2
    rw [i2, hx2.out]
    k_steps
    rename_i tp hz Fz Nz lz kF kN Tc kX
    have hrx := hx1.out
    subst hrx
    have lz2 := allLt_get lz.2
    refine hQ tp t7 tr tab' tab2 (ext2 ++ ext) _ _ kF ?_ ?_ ?_ ?_
    · intro p hp
      refine kN p ?_
      rcases List.mem_cons.mp hp with rfl | hp
      · exact .head _
      rcases List.mem_cons.mp hp with rfl | hp
      · exact .tail _ (.tail _ (List.mem_append_right _ (.tail _ (.head _))))
      rcases List.mem_cons.mp hp with rfl | hp
      · exact .tail _ (.head _)
      rw [List.append_assoc] at hp
      rcases List.mem_append.mp hp with hp | hp
      · exact .tail _ (.tail _ (List.mem_append_left _ hp))
      · exact .tail _ (.tail _ (List.mem_append_right _ (.tail _ (.tail _ hp))))
    · refine ht2.keep fun c oc vs t hm h1 h2 => ?_
      rw [List.append_assoc]
      rcases List.mem_append.mp hm with hm | hm
      · exact List.mem_append_right _ (List.mem_append_left _ hm)
      rcases List.mem_cons.mp hm with e | hm
      · cases e; exact (ht72.nostr h1 h2).elim
      · exact List.mem_append_right _ (List.mem_append_right _ hm)
    · refine ht3.keep fun c oc vs t hm h1 h2 => ?_
      rw [List.append_assoc]
      rcases List.mem_append.mp hm with hm | hm
      · exact List.mem_append_left _ hm
      rcases List.mem_cons.mp hm with e | hm
      · cases e; cases h1
      rcases List.mem_cons.mp hm with e | hm
      · cases e; exact (ht2.nostr h1 h2).elim
      · exact List.mem_append_right _ hm
    · intro q hq
      rcases List.mem_cons.mp hq with rfl | hq
      · exact ⟨lz.1, fun p hp => lz2 p (List.mem_append_right _ (.tail _ (.tail _ (List.mem_append_right _ hp))))⟩
      rcases List.mem_append.mp hq with hq | hq
      · exact ⟨(hnew2 q hq).1, fun p hp => (hnew2 q hq).2 p (.tail _ (.tail _ (List.mem_append_right _ hp)))⟩
      · exact ⟨h72 q hq, fun p hp => (hnew q (.tail _ hq)).2 p (.tail _ hp)⟩
end Mine
end

section
open PySem PySem.W PyProof.Rows PySem.Calls
set_option Elab.async false
set_option maxRecDepth 100000
set_option maxHeartbeats 1000000
namespace Mine
theorem calmIdm : True := by
  w_top off
  (try walk1)
  all_goals trivial
section
variable {prog : Program} {w : World} {A₀ A : Around} {s : Shared} {base h₀ : Heap} {env : Env} {L : Addr} {m : Str → Option Value} {news : List (Addr × Obj)} {K : Frag} {p : Program} {loose : List Str} {mean : ExcName → Option Value} {mg mb : Str → Option Value}
    {R : Result → Shared → Prop} {name qual : Str} {params : Arguments} {body : List Stmt} {scope : Scope} {dV kV doc pm cdv ct oc : Value} {an od : Option Addr} {osl : Array (Option Value)} {f : Addr} {args : Args} {binds : List (Str × Value)}
/-- a def that catches what its callees raise, called from a frame with nothing below it (the frame may have cells) -/
theorem code_defSX (B : Below A₀ base [] h₀) (F : Fr h₀ L s.heap m) (X₀ : K.In h₀) (N : News h₀ L s.heap news) (T : Top p loose mean mg mb h₀) (hA : A.frames = some [env]) (hf : env.frame = some L) (hke : env.scope.kind = .function)
    (ho : K.lookup f = some ⟨oc, od, .func (fnOf name qual params body scope dV kV doc pm an cdv ct), osl⟩) (hcd : codeIn K cdv qual = true) (hroom : A.depth < recursionLimit)
    (hbind : BindsTo s (fnOf name qual params body scope dV kV doc pm an cdv ct) args binds) (hloc : ∀ y ∈ binds, scope.names.lookup y.1 = some .local)
    (h : ∀ g L' h₁, Fr h₀ L g m → Fr g L' h₁ (fun y => binds.reverse.lookup y) → News g L' h₁ news → Below A base [env] g → K.In g → Top p loose mean mg mb g → KtsDicts ([env].filterMap (·.frame)) g →
      wpAny (model prog w) (A.deeper (envOf qual scope L' f cdv)) (execs body (envOf qual scope L' f cdv))
        (fun fl s' => LeaveS0 ([env].filterMap (·.frame)) h₀ L m g R (match fl with | .ret v => v | _ => .none) s')
        (fun e s' => wpAny (model prog w) (A.deeper (envOf qual scope L' f cdv)) (leaving (envOf qual scope L' f cdv) e) (fun _ s'' => R (.error e) s'') (fun e' s'' => R (.error e') s'') s')
        { s with heap := h₁, toks := s.toks + binds.length })
    (hco : scope.isCoroutine = false) (hgen : scope.isGenerator = false) (hk : scope.kind = .function)
    (hcell : ∀ x ∈ scope.names, x.2 ≠ .cell) : codeAny (model prog w) A (.call (.ref f) args) R s := by
  have X := X₀.keeps F.keep
  have hfs : [env].filterMap (·.frame) = [L] := by simp [hf]
  obtain ⟨FG, BG, st, _⟩ := groundX (R := R) B F N hA hf hke
  refine codeAny_call_def (fd := fnOf name qual params body scope dV kV doc pm an cdv ct) (body := body) (binds := binds) hroom (X _ _ ho) rfl (T.nolimit.keeps F.keep) (codeRec_of X hcd) rfl hbind hcell hloc (fun h₁ hns hk₁ => ?_) hco hgen hk
  obtain ⟨oL, es, ep, hLg, hLd, hLk, hLf⟩ := FG.ns
  refine wpAny_mono (h _ s.heap.objs.size h₁ FG ⟨hns, fun b o e => hk₁ b o (of_hideAll _ e), Nat.le_of_eq (hideAll_size _ _)⟩
    (fun p hp => ⟨hk₁ _ _ (N p hp).1, Nat.ne_of_lt (Heap.lt_size (N p hp).1), hideAll_none _ (List.mem_map_of_mem hp)⟩) BG (X₀.keeps st) (T.keeps st) (fun b hb => by
      rw [hfs] at hb
      rw [List.mem_singleton.mp hb]
      exact ⟨oL, es, ep, hLg, hLd⟩)) (fun fl s' hl => ?_) fun _ _ y => y
  obtain ⟨g', L', m', news', T', F', N', k⟩ := hl
  have nL₀ : h₀.get? L = none := kts_self F
  obtain ⟨sl, hs⟩ := T'.up hLg
  refine k ⟨⟨_, es, ep, F'.keep _ _ hs, hLd, hLk, hLf⟩, fun b o e => F'.keep b o (T'.other b o (st b o e) (fun q => by
    rw [hfs] at q
    rw [List.mem_singleton.mp q, nL₀] at e
    cases e)), F.above⟩ fun p hp => ⟨(N' p hp).1, fun q => ?_, ?_⟩
  · have := (N' p hp).2.2; rw [q, hs] at this; cases this
  · cases q : h₀.get? p.1 with
    | none => rfl
    | some o =>
      obtain ⟨sl', hs'⟩ := T'.up (st _ _ q)
      have := (N' p hp).2.2
      rw [hs'] at this
      cases this
end
local macro_rules | `(tactic| walk_at "call ref") => `(tactic| (refine Stop.out ?_))
theorem idm_c {w : World} {p : Program} {loose : List Str} {mean : ExcName → Option Value} {mg mb : Str → Option Value} : 
  ∀ {dp un : Nat} {gd : Option (List Code)} {cn : Str} {cs : Scope} {a : Addr} {ccd : Value} {cl : List (Str × Addr)} {outer : List Env} {A₀ : Around} {base h₀ : Heap} {L : Addr} {m : Str → Option Value} {rest : List (Addr × Obj)} {s : Shared} 
    {Q E : Value → Shared → Prop} {x b : Int} {t1 t2 : Tok} {t65 t72 : Obj},
    Below A₀ base outer h₀ → Fr h₀ L s.heap m → (Mine.hd.heap_39 w.params).In h₀ → News h₀ L s.heap ((65, t65) :: (72, t72) :: rest) → Top p loose mean mg mb h₀ → cs.kind = .function → dp + 50 < recursionLimit → un + 240 < cLine →
    (∀ p ∈ rest, p.1 ≠ 65) → (∀ p ∈ rest, p.1 ≠ 72) → TabSt q1 75 4 t65 rest → TabSt q2 90 4 t72 rest → 0 < x → 0 < b → x ≤ 12 * b → Builtin.Int.intBits b < 4194304 →
    (∀ tp u1 u2 t65' t72' ext h' tk', Fr h₀ L h' m → News h₀ L h' ((tp, tupOf #[.int (x / b) u1, .int (x % b) u2]) :: (65, t65') :: (72, t72') :: (ext ++ rest)) → TabSt q1 75 4 t65' (ext ++ rest) → TabSt q2 90 4 t72' (ext ++ rest) →
      (∀ q ∈ (tp, t65') :: ext, 72 < q.1 ∧ ∀ p ∈ rest, p.1 < q.1) → Q (.ref tp) { s with heap := h', toks := tk' }) →
    wpAny (model PySem.Challenge.rw_op0091_01.row.prog w) (ktrTop dp un gd cn cs L a ccd cl outer) (call (.ref 91) [.int x t1, .int b t2]) Q E s := by
  k_fill
  intro dp un gd cn cs a ccd cl outer A₀ base h₀ L m rest s Q E x b t1 t2 t65 t72 B F X N T hk hd hu hr65 hr72 ht65 ht72 hx hb h12 hbits hQ
  refine wpAny_call ?_
  k_dflt ktr_enter
  refine wpAny_noRaise ?_
  k_steps
  · exfalso; omega
  refine ⟨?_⟩
  rename News _ _ _ _ => N1
  k_dflt (refine' dmp_c ?k1 ?k2 ?k3 N1 ?k5 ?k6 ?k7 ?k8 hr65 hr72 ht65 ht72 hx hb h12 hbits ?_)
  case k1 => k_asm
  case k2 => k_asm
  case k3 => k_asm
  case k5 => k_asm
  case k6 => rfl
  case k7 => show dp + 1 + 40 < recursionLimit; omega
  case k8 => show un + 3 + 200 < cLine; omega
  intro tp u1 u2 t65' t72' ext h2 tk2 F2 N2 ht1 ht2 hnew
  k_steps
  exact hQ tp u1 u2 t65' t72' ext _ _ (by assumption) (by assumption) ht1 ht2 hnew
end Mine
end

section
open PySem PySem.W PyProof.Rows
set_option Elab.async false
namespace Mine
/-- Euclid's run: each divisor as often as its quotient -/
def erun (x b : Nat) : List Int := if h : b = 0 then [] else List.replicate (x / b) (b : Int) ++ erun b (x % b)
termination_by b
decreasing_by exact Nat.mod_lt _ (by omega)
theorem erun_zero (x : Nat) : erun x 0 = [] := by rw [erun]; simp
theorem erun_pos {x b : Nat} (h : b ≠ 0) : erun x b = List.replicate (x / b) (b : Int) ++ erun b (x % b) := by rw [erun]; simp [h]
theorem erun_scale (u : Nat) (hu : 0 < u) : ∀ (b x : Nat), erun (u * x) (u * b) = (erun x b).map fun z => (u : Int) * z := by
  intro b
  induction b using Nat.strongRecOn with
  | ind b ih =>
    intro x
    by_cases h : b = 0
    · subst h; rw [Nat.mul_zero, erun_zero, erun_zero]; rfl
    · have h' : u * b ≠ 0 := Nat.mul_ne_zero (by omega) h
      rw [erun_pos h', erun_pos h, Nat.mul_div_mul_left _ _ hu, Nat.mul_mod_mul_left, ih _ (Nat.mod_lt _ (by omega)) b, List.map_append, List.map_replicate]
      push_cast
      rfl
theorem erun_len12 : ∀ i ∈ List.range 13, ∀ j ∈ List.range 13, (erun i j).length ≤ 12 := by decide +kernel
theorem erun_len {u i j : Nat} (hu : 0 < u) (hi : i ≤ 12) (hj : j ≤ 12) : (erun (u * i) (u * j)).length ≤ 12 := by
  rw [erun_scale u hu, List.length_map]
  exact erun_len12 i (List.mem_range.mpr (by omega)) j (List.mem_range.mpr (by omega))
end Mine
end

section
set_option Elab.async false
namespace Mine
theorem erun_self {x : Nat} (h : 0 < x) : erun x x = [(x : Int)] := by
  rw [erun_pos (by omega), Nat.div_self h, Nat.mod_self, erun_zero]; rfl
theorem erun_swap {x y : Nat} (h : x < y) : erun x y = erun y x := by
  rw [erun_pos (by omega), Nat.div_eq_of_lt h, Nat.mod_eq_of_lt h]; rfl
theorem erun_sort (x y : Nat) : erun x y = erun (max x y) (min x y) := by
  by_cases h : x < y
  · rw [erun_swap h, Nat.max_eq_right (by omega), Nat.min_eq_left (by omega)]
  · rw [Nat.max_eq_left (by omega), Nat.min_eq_right (by omega)]
theorem erun_step {lo hi : Nat} (h0 : 0 < lo) (h : lo < hi) : erun hi lo = (lo : Int) :: erun (max lo (hi - lo)) (min lo (hi - lo)) := by
  rw [← erun_sort]
  obtain ⟨d, rfl⟩ : ∃ d, hi = d + lo := ⟨hi - lo, by omega⟩
  rw [Nat.add_sub_cancel, erun_pos (by omega), Nat.add_div_right _ h0, Nat.add_mod_right, List.replicate_succ, List.cons_append]
  congr 1
  by_cases hd : lo < d
  · rw [erun_swap hd, erun_pos (x := d) (b := lo) (by omega)]
  · by_cases he : d = lo
    · subst he; rw [erun_pos (x := d) (b := d) (by omega)]
    · rw [Nat.div_eq_of_lt (by omega), Nat.mod_eq_of_lt (by omega)]; rfl
end Mine
end

section
open PySem PySem.W PyProof.Rows PySem.Calls
set_option Elab.async false
set_option maxRecDepth 100000
set_option maxHeartbeats 1000000
namespace Mine
theorem tup_comp {prog : Program} {w : World} {A : Around} {E : Value → Shared → Prop} {s₁ : Shared} {h₀ : Heap} {L : Addr} {m : Str → Option Value} {news : List (Addr × Obj)}
    {α : Type} {K : ItemKind α} {env : Env} {elt : Expr} {x : Str} {scope : Scope} {Q : Value → Shared → Prop} {l : Addr} {vs : List Value} {as : List α} {d : α → PyData}
    (hh : A.handled = none) (hl : IsTup s₁.heap l vs.toArray) (hi : AreOf K vs as) (F : Fr h₀ L s₁.heap m) (N : News h₀ L s₁.heap news)
    (g2 : ∀ C a v s₂ m₂ E', K.is a v → s₂.heap.Ns (compEnv scope C env).locals m₂ → m₂ x = some v → Fr h₀ L s₂.heap m → News h₀ L s₂.heap news → wpAny (model prog w) A (eval elt (compEnv scope C env)) (fun r s₃ => Carried r (d a) ∧ Keeps s₂ s₃) E' s₂)
    (g3 : ∀ D (ys : List Value) h' tk, Fr h₀ L h' m → News h₀ L h' news → h₀.get? D = none → h'.IsList D ys.toArray → NewPlain h' news D ys.toArray → CarriedAll ys (as.map d) → Q (.ref D) { s₁ with heap := h', toks := tk })
    (hsz : as.length ≤ sizeLine) :
    wpAny (model prog w) A (pyIter (.ref l)) (CompPost prog w A env scope x [] elt Q) E s₁ := by
  have hlt : l < s₁.heap.objs.size := by obtain ⟨_, e, _⟩ := hl; exact Heap.lt_size e
  have hls : s₁.heap.IsTuple l vs.toArray := hl
  refine wpAny_pyIter_tuple hls ?_
  have up : ∀ (h' : Heap), (∀ b o', b ∉ [s₁.heap.objs.size] → (s₁.heap.push { cls := .type "tuple_iterator", data := .fields #[.ref l, .int 0 0] }).get? b = some o' → h'.get? b = some o') → ∀ b o', s₁.heap.get? b = some o' → h'.get? b = some o' :=
    fun h' hk b o' e => hk b o' (not_iter_of_old e) (Heap.get?_push_of_some _ e)
  refine ⟨K.lift fun _ => true, fun v r => ∃ a, K.is a v ∧ Carried r (d a), s₁.heap.objs.size, [s₁.heap.objs.size, l], [s₁.heap.objs.size], vs.toArray.size, _, _, rfl, Walks.tuple hh _ l (Nat.ne_of_lt hlt) vs.toArray, (by rw [List.size_toArray, hi.length]; exact hsz),
    ⟨⟨_, Heap.get?_push_size _ rfl, rfl, rfl⟩, hls.at fun o e => Heap.get?_push_of_some _ e⟩, ?_, ⟨?_, ?_⟩, ?_⟩
  · intro b hb
    show b < (s₁.heap.push _).objs.size
    rw [Heap.size_push]
    rcases List.mem_cons.mp hb with rfl | hb
    · exact Nat.lt_succ_self _
    · rw [List.mem_singleton.mp hb]; exact Nat.lt_succ_of_lt hlt
  · intro C i v s₃ m₃ E' hP hn hm _ htk
    obtain ⟨a, _, ha⟩ := hi.get i v (by simpa using hP)
    rw [ItemKind.lift_is ha]
    exact wpAny_pure ⟨rfl, _, _, rfl, fun _ _ e => e⟩
  · intro C i v s₃ m₃ E' hP hp hn hm hk htk
    obtain ⟨a, _, ha⟩ := hi.get i v (by simpa using hP)
    exact wpAny_mono (g2 C _ _ s₃ m₃ E' ha hn hm (F.keeps (up _ hk)) (N.grown (up _ hk))) (fun r s₄ h₄ => ⟨⟨_, ha, h₄.1⟩, h₄.2⟩) fun _ _ e => e
  · intro D h' tk ys vs' hnew hlD hplD hlen hP hF hk
    have e' : vs' = vs := by simpa using walked_is hlen hP
    subst e'
    refine g3 D ys.toList h' tk (F.keeps (up h' hk)) (N.grown (up h' hk)) ?_ (by rw [Array.toArray_toList]; exact hlD) ⟨by rw [Array.toArray_toList]; exact hplD, fun p hp e => by rw [← e, Heap.get?_push_of_some _ (N p hp).1] at hnew; cases hnew⟩ ?_
    · cases e : h₀.get? D with
      | none => rfl
      | some o' => rw [Heap.get?_push_of_some _ (F.keep _ _ e)] at hnew; cases hnew
    · have := hi.paired (fun _ => true) d _ hF
      rwa [List.filter_eq_self.mpr fun _ _ => rfl] at this
theorem ld_builtE {M : Model} {A : Around} {E : Value → Shared → Prop} {s : Shared} {K : Frag} {h₀ : Heap} {L C : Addr} {m mg mb : Str → Option Value} {scope : Scope} {env : Env} {p : Program} {loose : List Str} {mean : ExcName → Option Value} {x : Str} {pos : Pos} {v : Value} {Q : Value → Shared → Prop}
    (F : Fr h₀ L s.heap m) (X : K.In h₀) (T : Top p loose mean mg mb h₀) (e : nsIn K mainGlobals x = some none) (hv : bootBuiltins x = some v) (hn : x ≠ "__name__") (h : Q v s) (hg : env.globals = mainGlobals := by rfl) (hb : env.builtins = builtinsNs := by rfl)
    (hk : (compEnv scope C env).scope.kind = .function := by rfl) (hx : (compEnv scope C env).kindOf x = some .globalImplicit := by rfl) (hd : (x == ("__debug__" : Str)) = false := by decide) :
    wpAny M A (eval (.Name x pos) (compEnv scope C env)) Q E s :=
  Name_function_global hk hx (loadGlobal_builtin (env := compEnv scope C env) (show s.heap.Ns env.globals mg from hg ▸ (T.keeps F.keep).g) (mg_none_of X T.g e) (show s.heap.Ns env.builtins mb from hb ▸ (T.keeps F.keep).b) ((T.builtins x hn).trans hv) h) hd
end Mine
end

section
open PySem PySem.W PyProof.Rows PySem.Calls
set_option Elab.async false
namespace Mine
theorem hp_extend {prog : Program} {w : World} {A : Around} {E : Value → Shared → Prop} {s : Shared} {h₀ : Heap} {L D b : Addr} {m : Str → Option Value} {rest : List (Addr × Obj)} {vq v2 : List Value} {e n2 : Nat} {Q : Value → Shared → Prop}
    (F : Fr h₀ L s.heap m) (N : News h₀ L s.heap ((D, listOf vq.toArray e) :: rest)) (hb : (b, listOf v2.toArray n2) ∈ rest) (hne : ∀ p ∈ rest, p.1 ≠ D) (h1 : vq.length ≤ 1000) (h2 : v2.length ≤ 1000)
    (h : ∀ h' e', Fr h₀ L h' m → News h₀ L h' ((D, listOf (vq ++ v2).toArray e') :: rest) → Q .none { s with heap := h' }) : wpAny (model prog w) A (call (.builtin "list.extend") [.ref D, .ref b]) Q E s := by
  have hz : vq.toArray.toList.length ≤ sizeLine := by rw [List.toList_toArray]; exact Nat.le_trans h1 (Nat.le_of_ble_eq_true rfl)
  have hz2 : vq.toArray.size + v2.toArray.size ≤ sizeLine + 1 := by
    rw [List.size_toArray, List.size_toArray]
    have : 2000 ≤ sizeLine := Nat.le_of_ble_eq_true rfl
    omega
  have hd : ¬(!vq.toArray.isEmpty && Builtin.List.listTooLong (vq.toArray.size + v2.toArray.size)) = true := by
    rw [List.size_toArray, List.size_toArray]
    have : Builtin.List.listTooLong (vq.length + v2.length) = false := by
      unfold Builtin.List.listTooLong
      have : 2000 ≤ sizeLine := Nat.le_of_ble_eq_true rfl
      exact decide_eq_false (by omega)
    rw [this]; simp
  by_cases h0 : v2 = []
  · subst h0
    exact kxn_extend F N (.tail _ hb) rfl (Upd.head hne) hd hz hz2 fun h' F' N' => h h' e F' (by rw [List.append_nil]; exact N')
  · exact kl_extend F N (.tail _ hb) rfl (by rw [List.toList_toArray]; exact fun hl => h0 (List.length_eq_zero_iff.mp hl)) (Upd.head hne) hd hz hz2 fun h' F' N' => h h' _ F' (by simpa using N')
end Mine
end

section
open PySem PySem.W PyProof.Rows PySem.Calls
set_option Elab.async false
set_option maxRecDepth 100000
set_option maxHeartbeats 1000000
namespace Mine
theorem calmRun : True := by
  w_top off
  (try walk1)
  all_goals trivial
theorem ints_app : ∀ {vs ws : List Value} {ns ms : List Int}, IntsAre vs ns → IntsAre ws ms → IntsAre (vs ++ ws) (ns ++ ms)
  | _, _, _, _, .nil, h => h
  | _, _, _, _, .cons i t h, h2 => .cons i t (ints_app h h2)
theorem ints_repl {z : Int} {t : Tok} : ∀ q : Nat, IntsAre (List.replicate q (Value.int z t)) (List.replicate q z)
  | 0 => .nil
  | q + 1 => .cons z t (ints_repl q)
structure RunS where
  x : Nat
  b : Nat
  tx : Tok
  tb : Tok
  vq : List Value
  e : Nat
  t65 : Obj
  t72 : Obj
  ext : List (Addr × Obj)
  sqs : List Int
  i : Nat
  j : Nat
local macro_rules | `(tactic| k_all) => `(tactic| assumption)
local macro_rules | `(tactic| walk_at "call ref") => `(tactic| (refine Stop.out ?_))
local macro_rules | `(tactic| walk_at "exec While") => `(tactic| (refine Stop.out ?_))
local macro_rules | `(tactic| walk_at "exec While Constant cons nil") => `(tactic| (refine Stop.out ?_))
local macro_rules | `(tactic| walk_at "exec Raise some none") => `(tactic| (refine Stop.out ?_))
local macro_rules | `(tactic| walk_at "eval Name") => `(tactic| ((with_reducible show wpAny _ _ (eval (Expr.Name _ _) (compEnv _ _ _)) _ _ _); k_dflt (refine ld_builtE (by k_asm) (by k_asm) (by k_asm) (by k_is) (by boot_by_name) (by decide) ?_)))
local macro_rules | `(tactic| walk_at "binaryOp Mult int int") => `(tactic| (k_here; k_dflt (refine' mul_to ?k1 ?k2 ?_; (case k1 => with_reducible assumption); (case k2 => with_reducible assumption); k_whole)))
local macro_rules | `(tactic| walk_at "binaryOp Mult ref int") => `(tactic| (refine Stop.out ?_))
local macro_rules | `(tactic| walk_at "call builtin:list.extend") => `(tactic| (refine Stop.out ?_))
theorem run_c {w : World} {p : Program} {loose : List Str} {mean : ExcName → Option Value} {mg mb : Str → Option Value} : 
  ∀ {dp un : Nat} {gd : Option (List Code)} {cn : Str} {cs : Scope} {a : Addr} {ccd : Value} {cl : List (Str × Addr)} {A₀ : Around} {base h₀ : Heap} {L : Addr} {m : Str → Option Value} {rest : List (Addr × Obj)} {s : Shared} 
    {Q E : Value → Shared → Prop} {u₀ i₀ j₀ x₀ b₀ : Nat} {t1 t2 : Tok} {t65 t72 : Obj},
    Below A₀ base [] h₀ → Fr h₀ L s.heap m → (Mine.hd.heap_39 w.params).In h₀ → News h₀ L s.heap ((65, t65) :: (72, t72) :: rest) → Top p loose mean mg mb h₀ → (Mine.hd.heap_39 w.params).In base → Top p loose mean mg mb base → cs.kind = .function → dp + 80 < recursionLimit → un + 340 < cLine →
    (∀ p ∈ rest, p.1 ≠ 65) → (∀ p ∈ rest, p.1 ≠ 72) → TabSt q1 75 4 t65 rest → TabSt q2 90 4 t72 rest → 0 < u₀ → Builtin.Int.intBits ((u₀ : Nat) : Int) < 4000000 → x₀ = u₀ * i₀ → b₀ = u₀ * j₀ → 0 < i₀ → i₀ ≤ 12 → j₀ ≤ 12 →
    (∀ sq vq e t65' t72' ext h' tk', Fr h₀ L h' m → News h₀ L h' ((sq, listOf vq.toArray e) :: (65, t65') :: (72, t72') :: (ext ++ rest)) → TabSt q1 75 4 t65' (ext ++ rest) → TabSt q2 90 4 t72' (ext ++ rest) →
      (∀ q ∈ (sq, t65') :: ext, 72 < q.1 ∧ ∀ p ∈ rest, p.1 < q.1) → (∀ q ∈ ext, q.1 ≠ sq) → IntsAre vq (erun x₀ b₀) → Q (.ref sq) { s with heap := h', toks := tk' }) →
    wpAny (model PySem.Challenge.rw_op0091_01.row.prog w) (ktrTop dp un gd cn cs L a ccd cl []) (call (.ref 106) [.int x₀ t1, .int b₀ t2]) Q E s := by
  k_fill
  intro dp un gd cn cs a ccd cl A₀ base h₀ L m rest s Q E u₀ i₀ j₀ x₀ b₀ t1 t2 t65 t72 B F X N T XB TB hk hd hu hr65 hr72 ht65 ht72 hu0 hub hx0 hb0 hi0 hi12 hj12 hQ
  refine wpAny_call ?_
  k_dflt (refine' code_defSX ?k1 ?k2 ?k3 ?k4 ?k5 ?kA ?kF ?kK ?k6 ?k7 ?k8 ?k9 ?kB ?_ ?c2 ?c3 ?c4 ?c5; (case kA => exact rfl); (case kF => exact rfl); (case kK => assumption); (case k1 => k_asm); (case k2 => k_asm); (case k3 => k_asm); (case k4 => k_asm); (case k5 => k_asm); (case k6 => k_is); (case k7 => k_is); (case k8 => ktr_room); (case k9 => exact BindsTo.of_eq rfl); (case c5 => decide); (case kB => exact locs rfl); (case c2 => exact rfl); (case c3 => exact rfl); (case c4 => exact rfl); k_whole)
  intro g' L' h' FG' F' N' B' X' T' D'
  (try dsimp only)
  k_fold
  refine wpAny_noRaise ?_
  k_steps
  rename_i sq hha lsq hhb F1 N1
  have lsq2 := allLt_get lsq.2.2
  refine ⟨?_⟩
  refine wh (σ := RunS) (fun c => (sq, listOf c.vq.toArray c.e) :: (65, c.t65) :: (72, c.t72) :: (c.ext ++ rest))
    (fun c => [(Str.ofString "top", .int c.x c.tx), (Str.ofString "bottom", .int c.b c.tb), (Str.ofString "squares", .ref sq)])
    (fun c => c.x = u₀ * c.i ∧ c.b = u₀ * c.j ∧ 0 < c.i ∧ c.i ≤ 12 ∧ c.j ≤ 12 ∧ IntsAre c.vq c.sqs ∧ c.sqs ++ erun c.x c.b = erun x₀ b₀ ∧ TabSt q1 75 4 c.t65 (c.ext ++ rest) ∧ TabSt q2 90 4 c.t72 (c.ext ++ rest) ∧ (∀ q ∈ c.ext, 72 < q.1 ∧ q.1 ≠ sq ∧ ∀ p ∈ rest, p.1 < q.1))
    (fun _ => False) (fun c => c.b) ⟨x₀, b₀, t1, t2, [], 0, t65, t72, [], [], i₀, j₀⟩ F1 N1 (fun _ h => h) ?hk ⟨hx0, hb0, hi0, hi12, hj12, .nil, rfl, ht65, ht72, fun _ h => nomatch h⟩ ?turn ?done PassesOwn.never
  case hk =>
    intro p hp
    simp only [List.mem_cons, List.not_mem_nil, or_false] at hp
    rcases hp with rfl | rfl | rfl <;> with_unfolding_all rfl
  case done => rintro c u h2 tk2 hf; exact hf.elim
  case turn =>
    rintro ⟨x, b, tx, tb, vq, e, s65, s72, ext, sqs, i, j⟩ u h2 tk2 ⟨p1, p2, p3, p4, p5, p6, p7, p8, p9, p10⟩ F2 N2
    dsimp only at p1 p2 p3 p4 p5 p6 p7 p8 p9 p10 F2 N2
    clear F1 N1
    k_steps
    refine WIf.of (fun _ => ?_) (fun hb => by cases hb)
    by_cases hbz : b = 0
    · subst hbz
      k_steps
      refine ⟨?_⟩
      refine wpAny_call ?_
      k_dflt (refine' code_def ?k1 ?k2 ?k3 ?k4 ?k5 ?kA ?kF ?kK ?k6 ?k7 ?k8 ?k9 ?kB ?_ ?c2 ?c3 ?c4 ?c5; (case kA => exact rfl); (case kF => exact rfl); (case kK => exact rfl); (case k1 => k_asm); (case k2 => k_asm); (case k3 => k_asm); (case k4 => k_asm); (case k5 => k_asm); (case k6 => k_is); (case k7 => k_is); (case k8 => ktr_room); (case k9 => exact BindsTo.of_eq rfl); (case c5 => decide); (case kB => exact locs rfl); (case c2 => exact rfl); (case c3 => exact rfl); (case c4 => exact rfl); k_whole; intro g2 L2 h3 FG2 F3 N3 B2 X2 T2; (try dsimp only); (try k_fold))
      k_steps
      · refine ⟨?_⟩
        refine Raise_classB rfl excClass_ZeroDivisionError (by rw [isSubtype_type]; kernel_rfl) ?hx ?hr
        case hx =>
          k_steps
        case hr =>
          intro h5 e5 hx5
          k_steps
          dsimp only [WPost]
          refine leaveS0_ (by assumption) (by assumption) (by assumption) ?_
          intro kF kN
          rw [erun_zero, List.append_nil] at p7
          refine hQ sq vq e s65 s72 ext _ _ kF kN p8 p9 ?_ (fun q hq => (p10 q hq).2.1) (by rw [← p7]; exact p6)
          intro q hq
          rcases List.mem_cons.mp hq with rfl | hq
          · exact ⟨lsq.2.1, lsq2⟩
          · exact ⟨(p10 q hq).1, (p10 q hq).2.2⟩
    · have hb : 0 < b := by omega
      have hj0 : 0 < j := by
        rcases Nat.eq_zero_or_pos j with h | h
        · rw [h, Nat.mul_zero] at p2; omega
        · exact h
      have hx : 0 < x := by rw [p1]; exact Nat.mul_pos hu0 p3
      have hxb : x ≤ 12 * b := by
        rw [p1, p2]
        have h1 : u₀ * i ≤ u₀ * 12 := Nat.mul_le_mul_left _ p4
        have h2 : u₀ * 1 ≤ u₀ * j := Nat.mul_le_mul_left _ hj0
        omega
      have hbb : Builtin.Int.intBits ((b : Nat) : Int) < 4194304 := by
        have h1 : b ≤ 16 * u₀ := by rw [p2, Nat.mul_comm 16]; exact Nat.mul_le_mul_left _ (by omega)
        have h2 : Builtin.Int.intBits ((b : Nat) : Int) ≤ Builtin.Int.intBits ((u₀ : Nat) : Int) + 4 := by
          refine bits_le (by omega) ?_
          have := lt_two_bits (x := ((u₀ : Nat) : Int)) (by omega)
          rw [Int.pow_add, show (2 : Int) ^ 4 = 16 from rfl]
          omega
        omega
      k_steps
      refine ⟨?_⟩
      rename News _ _ _ _ => N3
      have N4 : News _ _ _ ((65, s65) :: (72, s72) :: ((sq, listOf vq.toArray e) :: (ext ++ rest))) := fun p hp => N3 p (by
        rcases List.mem_cons.mp hp with rfl | hp
        · exact .tail _ (.head _)
        rcases List.mem_cons.mp hp with rfl | hp
        · exact .tail _ (.tail _ (.head _))
        rcases List.mem_cons.mp hp with rfl | hp
        · exact .head _
        exact .tail _ (.tail _ (.tail _ hp)))
      k_dflt (refine' idm_c (x := (x : Int)) (b := (b : Int)) ?k1 ?k2 ?k3 N4 ?k5 ?k6 ?k7 ?k8 ?k65 ?k72 ?kt1 ?kt2 ?kx ?kb ?k12 hbb ?_)
      case k1 => k_asm
      case k2 => k_asm
      case k3 => k_asm
      case k5 => k_asm
      case k6 => rfl
      case k7 => show dp + 1 + 50 < recursionLimit; omega
      case k8 => show un + 3 + 240 < cLine; omega
      case k65 =>
        intro p hp
        rcases List.mem_cons.mp hp with rfl | hp
        · exact (Nat.ne_of_lt lsq.1).symm
        rcases List.mem_append.mp hp with hp | hp
        · exact (Nat.ne_of_lt (Nat.lt_trans (by decide : (65 : Nat) < 72) (p10 p hp).1)).symm
        · exact hr65 p hp
      case k72 =>
        intro p hp
        rcases List.mem_cons.mp hp with rfl | hp
        · exact (Nat.ne_of_lt lsq.2.1).symm
        rcases List.mem_append.mp hp with hp | hp
        · exact (Nat.ne_of_lt (p10 p hp).1).symm
        · exact hr72 p hp
      case kt1 => exact p8.mono fun p hp => .tail _ hp
      case kt2 => exact p9.mono fun p hp => .tail _ hp
      case kx => omega
      case kb => omega
      case k12 => omega
      intro tp u1 u2 r65 r72 ext2 h4 tk4 F4 N5 hta htb hnew
      have hqN : (x : Int) / (b : Int) = ((x / b : Nat) : Int) := rfl
      have hrN : (x : Int) % (b : Int) = ((x % b : Nat) : Int) := rfl
      have hrb : x % b < b := Nat.mod_lt _ hb
      have hdm : x / b * b + x % b = x := by rw [Nat.mul_comm]; exact Nat.div_add_mod x b
      have hq12 : x / b ≤ 12 := Nat.div_le_of_le_mul (by rw [Nat.mul_comm]; exact hxb)
      have hS : Stop (erun x b = List.replicate (x / b) (b : Int) ++ erun b (x % b)) := ⟨erun_pos hbz⟩
      have hX : Stop (x % b = u₀ * (i % j)) := ⟨by rw [p1, p2, Nat.mul_mod_mul_left]⟩
      rw [hqN, hrN] at N5
      have N5' : News _ _ _ ((sq, listOf vq.toArray e) :: (tp, tupOf #[.int ((x / b : Nat) : Int) u1, .int ((x % b : Nat) : Int) u2]) :: (65, r65) :: (72, r72) :: (ext2 ++ (ext ++ rest))) := fun p hp => N5 p (by
        simp only [List.mem_cons, List.mem_append] at hp ⊢
        rcases hp with h | h | h | h | h | h | h
        · exact .inr (.inr (.inr (.inr (.inl h))))
        · exact .inl h
        · exact .inr (.inl h)
        · exact .inr (.inr (.inl h))
        · exact .inr (.inr (.inr (.inl h)))
        · exact .inr (.inr (.inr (.inr (.inr (.inl h)))))
        · exact .inr (.inr (.inr (.inr (.inr (.inr h))))))
      clear N5
      rename News _ _ _ _ => N5
      generalize hq : x / b = q at N5 hdm hq12 hS
      generalize hr : x % b = r at N5 hdm hrb hS hX
      clear hq hr hqN hrN
      have hqb : ((q : Nat) : Int) * ((b : Nat) : Int) = ((q * b : Nat) : Int) := by simp
      have hmul : IntMulOk ((q : Nat) : Int) ((b : Nat) : Int) := IntMulOk.of_left (intBits_le_64 (by omega) (by omega))
      generalize hqb2 : q * b = qb at hdm hqb
      have hfin : ((qb : Nat) : Int) + ((r : Nat) : Int) = ((x : Nat) : Int) := by omega
      have hr1 : (0 : Int) ≤ ((r : Nat) : Int) := by omega
      have hr2 : ((r : Nat) : Int) < ((b : Nat) : Int) := by omega
      clear hqb2
      k_steps
      rename Fr _ _ _ _ => F5
      rename News _ _ _ _ => N6
      have hT5 : IsTup _ tp [Value.int ((q : Nat) : Int) u1, Value.int ((r : Nat) : Int) u2].toArray := News.isTup N6 (.tail _ (.head _))
      refine tup_comp (K := ItemKind.int) (as := [((q : Nat) : Int), ((r : Nat) : Int)]) (d := fun _ => PyData.bool true) rfl hT5 (IntsAre.areOf (.cons _ _ (.cons _ _ .nil))) F5 N6 ?g2 ?g3 (Nat.le_of_ble_eq_true rfl)
      case g2 =>
        intro C a v s2 m2 E2 ha hn hx F6 N7
        obtain ⟨t, rfl⟩ := ItemKind.int_is ha
        k_steps
        all_goals first | exact ⟨_, _, rfl, fun _ _ e => e⟩ | exact Carried.bool true
      case g3 =>
        intro D ys h5 tk5 F6 N7 hD hlD hpD hc
        obtain ⟨n5, e5⟩ := hpD.1
        have hys : ys = [Value.bool true, Value.bool true] := by
          rcases hc with _ | ⟨c1, c2⟩
          rcases c2 with _ | ⟨c2, c3⟩
          cases c3
          cases c1
          cases c2
          rfl
        subst hys
        have N8 : News _ _ _ ((D, listOf #[Value.bool true, Value.bool true] n5) :: _) := List.forall_mem_cons.mpr ⟨⟨e5, hpD.ne_locals F6, hD⟩, N7⟩
        clear hpD hlD hc N7
        k_steps
        · exfalso; omega
        refine ⟨?_⟩
        rename_i l1 hh1 hl1 hh2 hh3 hh4 hqq tk6 l2 hh5 F7 N9 hl2
        k_dflt (refine' KMa.mul (ws := List.replicate q (.int (b : Int) tb)) ?k1 N9 ?k3 ?k4 ?k5 ?k6 ?k7 ?_)
        case k1 => k_asm
        case k3 => exact PySem.IsL.isList (n := 0) (N9 _ (.head _)).1
        case k4 => omega
        case k5 => omega
        case k6 => simp; omega
        case k7 => simp [List.flatten_replicate_singleton]
        intro dg h6 F8 N10 hlt
        have hlt' := allLt_of hlt
        have N11 : News _ _ _ ((sq, listOf vq.toArray e) :: (dg, listOf (List.replicate q (Value.int (b : Int) tb)).toArray 0) :: (65, r65) :: (72, r72) :: (ext2 ++ (ext ++ rest))) := fun p hp => N10 p (by
          simp only [List.mem_cons] at hp ⊢
          rcases hp with h | h | h | h | h
          · exact .inr (.inr (.inr (.inr (.inl h))))
          · exact .inl h
          · exact .inr (.inr (.inr (.inr (.inr (.inr (.inl h))))))
          · exact .inr (.inr (.inr (.inr (.inr (.inr (.inr (.inl h)))))))
          · exact .inr (.inr (.inr (.inr (.inr (.inr (.inr (.inr h)))))))
          )
        clear N10
        have hvl : vq.length ≤ 12 := by
          have h1 : (sqs ++ erun x b).length ≤ 12 := by rw [p7, hx0, hb0]; exact erun_len hu0 hi12 hj12
          rw [List.length_append] at h1
          have h2 := (IntsAre.areOf p6).length
          omega
        have hoff : ∀ p ∈ (dg, listOf (List.replicate q (Value.int (b : Int) tb)).toArray 0) :: (65, r65) :: (72, r72) :: (ext2 ++ (ext ++ rest)), p.1 ≠ sq := by
          intro p hp
          rcases List.mem_cons.mp hp with rfl | hp
          · exact (Nat.ne_of_lt (hlt (sq, listOf vq.toArray e) (.tail _ (.tail _ (.tail _ (.head _)))))).symm
          rcases List.mem_cons.mp hp with rfl | hp
          · exact Nat.ne_of_lt lsq.1
          rcases List.mem_cons.mp hp with rfl | hp
          · exact Nat.ne_of_lt lsq.2.1
          rcases List.mem_append.mp hp with hp | hp
          · exact (Nat.ne_of_lt ((hnew p (.tail _ hp)).2 (sq, listOf vq.toArray e) (.head _))).symm
          rcases List.mem_append.mp hp with hp | hp
          · exact (p10 p hp).2.1
          · exact Nat.ne_of_lt (lsq2 p hp)
        k_steps
        refine ⟨?_⟩
        refine hp_extend (by assumption) N11 (.head _) hoff (by omega) (by rw [List.length_replicate]; omega) fun h7 e7 F9 N12 => ?_
        clear N11 F8 N9 F7
        k_steps
        rename Fr _ _ _ _ => F10
        rename News _ _ _ _ => N13
        have sub : ∀ p ∈ (sq, listOf (vq ++ List.replicate q (Value.int (b : Int) tb)).toArray e7) :: (65, r65) :: (72, r72) :: ((ext2 ++ ext) ++ rest), News g' L' _ [p] := fun p hp => by
          intro p' hp'
          rw [List.mem_singleton.mp hp']
          refine N13 p ?_
          rw [List.append_assoc] at hp
          rcases List.mem_cons.mp hp with rfl | hp
          · exact .tail _ (.head _)
          · exact .tail _ (.tail _ (.tail _ hp))
        refine WEnd.mk ⟨b, r, tb, u2, vq ++ List.replicate q (.int (b : Int) tb), e7, r65, r72, ext2 ++ ext, sqs ++ List.replicate q (b : Int), j, i % j⟩ F10 (fun p hp => sub p hp p (.head _)) (fun _ h => h) ?hk2 ?hp2
        case hk2 =>
          intro p hp
          simp only [List.mem_cons, List.not_mem_nil, or_false] at hp
          rcases hp with rfl | rfl | rfl <;> with_unfolding_all rfl
        case hp2 =>
          have keepT : ∀ {qq : Str} {ln cl : Nat} {o : Obj}, TabSt qq ln cl o (ext2 ++ (sq, listOf vq.toArray e) :: (ext ++ rest)) → TabSt qq ln cl o ((ext2 ++ ext) ++ rest) := by
            intro qq ln cl o h
            refine h.keep fun c oc vs t hm h1 _ => ?_
            rw [List.append_assoc]
            rcases List.mem_append.mp hm with hm | hm
            · exact List.mem_append.mpr (.inl hm)
            rcases List.mem_cons.mp hm with hm | hm
            · cases hm; cases h1
            · exact List.mem_append.mpr (.inr hm)
          refine ⟨⟨p2, hX.1, hj0, p5, ?_, ?_, ?_, keepT hta, keepT htb, ?_⟩, hrb⟩
          · exact Nat.le_of_lt (Nat.lt_of_lt_of_le (Nat.mod_lt _ hj0) p5)
          · exact ints_app p6 (ints_repl q)
          · rw [← p7, hS.1, List.append_assoc]
          · intro p hp
            rcases List.mem_append.mp hp with hp | hp
            · have h1 := hnew p (.tail _ hp)
              exact ⟨h1.1, (Nat.ne_of_lt (h1.2 (sq, listOf vq.toArray e) (.head _))).symm, fun p' hp' => h1.2 p' (.tail _ (List.mem_append.mpr (.inr hp')))⟩
            · exact p10 p hp
end Mine
end

section
open PySem PySem.W PyProof.Rows PySem.Calls
set_option Elab.async false
set_option maxRecDepth 100000
set_option maxHeartbeats 1000000
namespace Mine
theorem calmStands : True := by
  w_top off
  (try walk1)
  all_goals trivial
def HeapOk (v : Addr → Int × Int) (rs : List Addr) : Prop := ∀ k, 1 ≤ k → k < rs.length → ltP (v (rs.getD ((k - 1) / 2) 0)) (v (rs.getD k 0)) = false
structure NoEnd (h₀ : Heap) (L : Addr) (m : Str → Option Value) (s : Shared) (news : List (Addr × Obj)) (ok : Bool) (s' : Shared) : Prop where
  no : ok = false
  at_ : ∃ h' tk', s' = { s with heap := h', toks := tk' } ∧ Fr h₀ L h' m ∧ News h₀ L h' news
theorem restT_none {prog : Program} {w : World} {A : Around} {s : Shared} {h₀ : Heap} {L : Addr} {m : Str → Option Value} {env : Env} {ct elt : Expr} {x : Str} {scope : Scope} {cl : List (Str × Addr)} {S : List (Addr × Obj) → Prop} {P : Nat → Value → Prop} {Fin : List Value → List (Addr × Obj) → Prop} {news : List (Addr × Obj)} {n : Nat} (hS : S news)
    (g : ∀ i, i < n → ∀ v I oI C oC D m₂ h tk (E' : Value → Shared → Prop), P i v → LCg.NsObj oC m₂ → m₂ x = some v → Fr h₀ L h m → News h₀ L h ((I, oI) :: (C, oC) :: (D, LCg.lst []) :: news) →
      wpAny (model prog w) A (isTrue ct (compEnvC scope cl C env) (eval ct (compEnvC scope cl C env))) (NoEnd h₀ L m s ((I, oI) :: (C, oC) :: (D, LCg.lst []) :: news)) E' { s with heap := h, toks := tk })
    (fin : Fin [] news) : ∀ k i, i + k = n → LCt.CompRestT prog w A h₀ L m env ct elt x scope cl s S P Fin k i [] news
  | 0, _, _ => fin
  | k + 1, i, hi => by
    refine LCt.CompRestT.succ fun v I oI C oC D m₂ h tk E' hv hC hx F N off ne => ?_
    refine wpAny_mono (g i (by omega) v I oI C oC D m₂ h tk E' hv hC hx F N) (fun ok s' hr => ?_) fun _ _ e => e
    obtain ⟨rfl, ⟨h', tk', rfl, F', N'⟩⟩ := hr
    rw [if_neg Bool.false_ne_true]
    exact ⟨h', tk', news, rfl, F', N', off, hS, restT_none hS g fin k (i + 1) (by omega)⟩
local macro_rules | `(tactic| walk_at "subscriptTail") => `(tactic| (refine Stop.out ?_))
local macro_rules | `(tactic| walk_at "compareOp Lt ref") => `(tactic| (refine Stop.out ?_))
theorem fd2 {prog : Program} {w : World} {A : Around} {E : Value → Shared → Prop} {s : Shared} {i : Nat} {t u : Tok} {Q : Value → Shared → Prop} (h : Q (.int ((i / 2 : Nat) : Int) s.toks) { s with toks := s.toks + 1 }) :
    wpAny (model prog w) A (binaryOp .FloorDiv (.int (1 + (i : Int) - 1) t) (.int 2 u)) Q E s := by
  refine floordiv_int (by decide) ?_
  have e : (1 + (i : Int) - 1).fdiv 2 = ((i / 2 : Nat) : Int) := by
    rw [Int.fdiv_eq_ediv_of_nonneg _ (by decide)]; omega
  rw [e]; exact h
local macro_rules | `(tactic| walk_at "binaryOp FloorDiv int int") => `(tactic| (refine Stop.out ?_))
local macro_rules | `(tactic| k_all) => `(tactic| assumption)
local macro_rules | `(tactic| walk_at "call builtin:len") => `(tactic| (refine Stop.out ?_))
local macro_rules | `(tactic| walk_at "eval ListComp") => `(tactic| (refine Stop.out ?_))
local macro_rules | `(tactic| walk_at "CompSrcT") => `(tactic| (refine Stop.out ?_))
local macro_rules | `(tactic| walk_at "eval Name") => `(tactic| (k_here; k_dflt (refine' nameX_F ?N ?c ?m ?d ?_ ?a ?b; (case a => rfl); (case b => rfl); (case N => with_reducible assumption); (case c => rfl); (case m => with_reducible assumption); (case d => with_reducible assumption); k_whole)))
theorem stands_c {w : World} {p : Program} {loose : List Str} {mean : ExcName → Option Value} {mg mb : Str → Option Value} : 
  ∀ {dp un : Nat} {gd : Option (List Code)} {cn : Str} {cs : Scope} {a : Addr} {ccd : Value} {cl : List (Str × Addr)} {outer : List Env} {A₀ : Around} {base h₀ : Heap} {L : Addr} {m : Str → Option Value} {rest : List (Addr × Obj)} {s : Shared} 
    {Q E : Value → Shared → Prop} {hp : Addr} {rs : List Addr} {n : Nat} {v : Addr → Int × Int},
    Below A₀ base outer h₀ → Fr h₀ L s.heap m → (Mine.hd.heap_39 w.params).In h₀ → News h₀ L s.heap ((hp, heapOf rs n) :: rest) → Top p loose mean mg mb h₀ → cs.kind = .function → dp + 20 < recursionLimit → un + 140 < cLine →
    (∀ p ∈ rest, p.1 ≠ hp) → (∀ r ∈ rs, IsBd rest v r) → rs.length < 100 → HeapOk v rs →
    (∀ h' tk', Fr h₀ L h' m → News h₀ L h' ((hp, heapOf rs n) :: rest) → Q (.bool true) { s with heap := h', toks := tk' }) →
    wpAny (model PySem.Challenge.rw_op0091_01.row.prog w) (ktrTop dp un gd cn cs L a ccd cl outer) (call (.ref 96) [.ref hp]) Q E s := by
  k_fill
  intro dp un gd cn cs a ccd cl outer A₀ base h₀ L m rest s Q E hp rs n v B F X N T hk hd hu hrest hall hlen hok hQ
  refine wpAny_call ?_
  k_dflt (refine' code_defC ?k1 ?k2 ?k3 ?k4 ?k5 ?kA ?kF ?kK ?k6 ?k7 ?k8 ?k9 ?kB ?kD ?_ ?c2 ?c3 ?c4; (case kA => exact rfl); (case kF => exact rfl); (case kK => assumption); (case k1 => k_asm); (case k2 => k_asm); (case k3 => k_asm); (case k4 => k_asm); (case k5 => k_asm); (case k6 => k_is); (case k7 => k_is); (case k8 => ktr_room); (case k9 => exact BindsTo.of_eq rfl); (case kB => exact rfl); (case kD => decide +kernel); (case c2 => exact rfl); (case c3 => exact rfl); (case c4 => exact rfl); k_whole)
  intro g' L' h' tk' cells' FG' F' N' Y' B' X' T' l1
  (try dsimp only)
  k_fold
  obtain ⟨o1, hE, d1⟩ := CellsAre.one Y'
  subst hE
  clear Y'
  simp only [List.cons_append, List.nil_append] at N'
  replace d1 : o1.data = .cell (some (.ref hp)) := d1
  have hmem : (L' + 1, o1) ∈ (L' + 1, o1) :: (hp, heapOf rs n) :: rest := .head _
  refine wpAny_noRaise ?_
  k_steps
  refine ⟨?_⟩
  k_dflt (refine LCt.ListComp_T (F₀ := by k_asm) (by rfl) (by decide) (by rfl) (by decide) (by rfl) ?_)
  k_steps
  refine ⟨?_⟩
  refine len_list (PySem.IsL.isList (n := n) (N' (hp, heapOf rs n) (.tail _ (.head _))).1) (by simp; omega) ?_
  rw [List.size_toArray, List.length_map]
  k_steps
  refine ⟨?_⟩
  k_dflt (refine LCt.CompSrcT.range (n := rs.length - 1) rfl (by assumption) (by assumption) (by assumption) ?hsm ?hn ?hsz ?_)
  case hsm => exact small_one (by decide) (by decide) (by omega) (by omega)
  case hn =>
    unfold Builtin.Range.rangeSize
    rw [if_pos (by decide)]
    by_cases h : (1 : Int) < (rs.length : Int)
    · rw [if_pos h, Int.ediv_one]; omega
    · rw [if_neg h]; omega
  case hsz => exact Nat.le_trans (show rs.length - 1 ≤ 100 by omega) (Nat.le_of_ble_eq_true rfl)
  intro g
  k_dflt (refine restT_none (n := rs.length - 1) trivial ?gg ?fin _ 0 (Nat.zero_add _))
  case gg =>
    intro i hi v I oI C oC D m2 h5 tk5 E5 hv hC hx F5 N5
    obtain ⟨t, rfl⟩ := hv
    k_steps
    refine ⟨?_⟩
    refine fd2 ?_
    k_steps
    refine ⟨?_⟩
    have sub : ∀ {hh : Heap}, News g' L' hh ((I, oI) :: (C, oC) :: (D, LCg.lst []) :: (L' + 1, o1) :: (hp, heapOf rs n) :: rest) → News g' L' hh ((hp, heapOf rs n) :: rest) := fun N7 p hp => N7 p (.tail _ (.tail _ (.tail _ (.tail _ hp))))
    refine hp_get (sub N5) hall (by omega) (by omega) (by omega) ?_
    intro hb1
    k_steps
    refine ⟨?_⟩
    refine hp_get (sub N5) hall (by omega) (by omega) (by omega) ?_
    intro hb2
    k_steps
    refine ⟨?_⟩
    k_dflt (refine lt_bd (sub N5) hb1 hb2 (by ktr_units) ?_)
    k_steps
    refine ⟨?_, _, _, rfl, F5, N5⟩
    have h1 := hok (i + 1) (by omega) (by omega)
    simp only [Nat.add_sub_cancel] at h1
    have e1 : ((i / 2 : Nat) : Int).toNat = i / 2 := Int.toNat_natCast _
    have e2 : (1 + (i : Int)).toNat = i + 1 := by omega
    rw [e1, e2]
    exact h1
  case fin =>
    k_steps
    rename_i kF kN _ _
    exact hQ _ _ kF fun p hp => kN p (.tail _ (.tail _ (.tail _ hp)))
end Mine
end

section
set_option Elab.async false
namespace Mine
open PySem
abbrev gv (v : Addr → Int × Int) (rs : List Addr) (k : Nat) : Int × Int := v (rs.getD k 0)
theorem gv_set {v : Addr → Int × Int} {rs : List Addr} {q : Nat} {x : Addr} (hq : q < rs.length) (k : Nat) : gv v (rs.set q x) k = if k = q then v x else gv v rs k := by
  unfold gv
  by_cases h : k = q
  · subst h; simp [List.getD, hq]
  · rw [if_neg h]; simp [List.getD, Ne.symm h]
theorem lt_ff {a b : Int × Int} : ltP a b = false ↔ (b.1 < a.1 ∨ (a.1 = b.1 ∧ b.2 ≤ a.2)) := by unfold ltP; simp; omega
theorem lt_tt {a b : Int × Int} : ltP a b = true ↔ (a.1 < b.1 ∨ (a.1 = b.1 ∧ a.2 < b.2)) := by unfold ltP; simp
theorem ge_trans {a b c : Int × Int} (h1 : ltP a b = false) (h2 : ltP b c = false) : ltP a c = false := by rw [lt_ff] at *; omega
theorem ge_of_lt {a b : Int × Int} (h1 : ltP a b = true) : ltP b a = false := by rw [lt_tt] at h1; rw [lt_ff]; omega
/-- the positions under s -/
inductive Desc (s : Nat) : Nat → Prop
  | self : Desc s s
  | left {p : Nat} : Desc s p → Desc s (2 * p + 1)
  | right {p : Nat} : Desc s p → Desc s (2 * p + 2)
theorem Desc.ge {s q : Nat} (h : Desc s q) : s ≤ q := by induction h <;> omega
theorem Desc.up {s q : Nat} (h : Desc s q) (hne : q ≠ s) : Desc s ((q - 1) / 2) := by
  cases h with
  | self => exact absurd rfl hne
  | @left p h => have e : (2 * p + 1 - 1) / 2 = p := by omega
                 rw [e]; exact h
  | @right p h => have e : (2 * p + 2 - 1) / 2 = p := by omega
                  rw [e]; exact h
theorem Desc.pick {s q : Nat} {v : Addr → Int × Int} {rs : List Addr} (h : Desc s q) : Desc s (pick v rs q) := by
  unfold Mine.pick; split
  · exact h.right
  · exact h.left
def From (v : Addr → Int × Int) (s : Nat) (rs : List Addr) : Prop := ∀ k, 1 ≤ k → k < rs.length → s ≤ (k - 1) / 2 → ltP (gv v rs ((k - 1) / 2)) (gv v rs k) = false
structure Hole (v : Addr → Int × Int) (s : Nat) (rs : List Addr) (q : Nat) : Prop where
  a : ∀ k, 1 ≤ k → k < rs.length → s ≤ (k - 1) / 2 → k ≠ q → (k - 1) / 2 ≠ q → ltP (gv v rs ((k - 1) / 2)) (gv v rs k) = false
  b : q ≠ s → ∀ c, 1 ≤ c → c < rs.length → (c - 1) / 2 = q → ltP (gv v rs ((q - 1) / 2)) (gv v rs c) = false
  d : Desc s q
theorem pick_ge {v : Addr → Int × Int} {rs : List Addr} {q : Nat} {c : Nat} (hc : 1 ≤ c) (hl : c < rs.length) (hq : (c - 1) / 2 = q) : ltP (gv v rs (pick v rs q)) (gv v rs c) = false := by
  have hcc : c = 2 * q + 1 ∨ c = 2 * q + 2 := by omega
  unfold pick
  split
  · rename_i h
    rcases hcc with rfl | rfl
    · exact h.2
    · rw [lt_ff]; omega
  · rename_i h
    rcases hcc with rfl | rfl
    · rw [lt_ff]; omega
    · have h' : ltP (gv v rs (2 * q + 2)) (gv v rs (2 * q + 1)) ≠ false := fun e => h ⟨hl, e⟩
      exact ge_of_lt (by cases e : ltP (gv v rs (2 * q + 2)) (gv v rs (2 * q + 1)) <;> simp_all)
theorem pick_par {v : Addr → Int × Int} {rs : List Addr} {q : Nat} : (pick v rs q - 1) / 2 = q := by unfold pick; split <;> omega
theorem Hole.down {v : Addr → Int × Int} {s : Nat} {rs : List Addr} {q : Nat} (H : Hole v s rs q) (h : 2 * q + 1 < rs.length) : Hole v s (rs.set q (rs.getD (pick v rs q) 0)) (pick v rs q) := by
  have hq : q < rs.length := by omega
  have hp := pick_par (v := v) (rs := rs) (q := q)
  have hgt := pick_gt v rs q
  have hlt := pick_lt (v := v) h
  refine ⟨?_, ?_, H.d.pick⟩
  · intro k h1 h2 h3 h4 h5
    rw [List.length_set] at h2
    rw [gv_set hq, gv_set hq]
    by_cases hk : k = q
    · subst hk
      rw [if_neg (by omega), if_pos rfl]
      have hs : k ≠ s := by omega
      exact H.b hs _ (by omega) hlt hp
    · rw [if_neg hk]
      by_cases hk2 : (k - 1) / 2 = q
      · rw [if_pos hk2]; exact pick_ge h1 h2 hk2
      · rw [if_neg hk2]; exact H.a k h1 h2 h3 hk hk2
  · intro _ c h1 h2 h3
    rw [List.length_set] at h2
    rw [hp, gv_set hq, gv_set hq, if_pos rfl, if_neg (by omega)]
    have := H.a c h1 h2 (by have := H.d.ge; omega) (by omega) (by omega)
    rw [h3] at this
    exact this
theorem su_hole {v : Addr → Int × Int} {s : Nat} : ∀ (k : Nat) (rs : List Addr) (p : Nat), rs.length - p = k → p < rs.length → Hole v s rs p → Hole v s (su v rs p).1 (su v rs p).2 ∧ ¬ 2 * (su v rs p).2 + 1 < (su v rs p).1.length := by
  intro k
  induction k using Nat.strongRecOn with
  | ind k ih =>
    intro rs p hk hp H
    rw [su.eq_def]
    split
    · rename_i hc
      have h1 := pick_gt v rs p
      have h2 := pick_lt (v := v) hc
      exact ih (rs.length - pick v rs p) (by omega) _ _ (by rw [List.length_set]) (by rw [List.length_set]; exact h2) (H.down hc)
    · rename_i hc
      exact ⟨H, hc⟩
theorem sd_from {v : Addr → Int × Int} {s : Nat} {x : Addr} : ∀ (q : Nat) (rs : List Addr), q < rs.length → Hole v s rs q → (∀ c, 1 ≤ c → c < rs.length → (c - 1) / 2 = q → ltP (v x) (gv v rs c) = false) → From v s (sd v s x rs q) := by
  intro q
  induction q using Nat.strongRecOn with
  | ind q ih =>
    intro rs hq H hx
    have place : (q ≠ s → ltP (gv v rs ((q - 1) / 2)) (v x) = false) → From v s (rs.set q x) := by
      intro hpar k h1 h2 h3
      rw [List.length_set] at h2
      rw [gv_set hq, gv_set hq]
      by_cases hk : k = q
      · subst hk
        rw [if_neg (by omega), if_pos rfl]
        exact hpar (by omega)
      · rw [if_neg hk]
        by_cases hk2 : (k - 1) / 2 = q
        · rw [if_pos hk2]; exact hx k h1 h2 hk2
        · rw [if_neg hk2]; exact H.a k h1 h2 h3 hk hk2
    rw [sd.eq_def]
    split
    · rename_i hst
      split
      · rename_i hlt
        have hne : q ≠ s := by omega
        have hpd := H.d.up hne
        have hps := hpd.ge
        refine ih _ (by omega) _ (by rw [List.length_set]; omega) ⟨?_, ?_, hpd⟩ ?_
        · intro k h1 h2 h3 h4 h5
          rw [List.length_set] at h2
          rw [gv_set hq, gv_set hq]
          by_cases hk : k = q
          · subst hk; exact absurd rfl h5
          · rw [if_neg hk]
            by_cases hk2 : (k - 1) / 2 = q
            · rw [if_pos hk2]; exact H.b hne k h1 h2 hk2
            · rw [if_neg hk2]; exact H.a k h1 h2 h3 hk hk2
        · intro hps2 c h1 h2 h3
          rw [List.length_set] at h2
          rw [gv_set hq, gv_set hq, if_neg (by omega)]
          have hpp := H.a ((q - 1) / 2) (by omega) (by omega) (by have := (hpd.up hps2).ge; omega) (by omega) (by omega)
          by_cases hc : c = q
          · rw [if_pos hc]; exact hpp
          · rw [if_neg hc]
            refine ge_trans hpp ?_
            have := H.a c h1 h2 (by omega) hc (by omega)
            rw [h3] at this
            exact this
        · intro c h1 h2 h3
          rw [List.length_set] at h2
          rw [gv_set hq]
          by_cases hc : c = q
          · rw [if_pos hc]; exact ge_of_lt hlt
          · rw [if_neg hc]
            have := H.a c h1 h2 (by omega) hc (by omega)
            rw [h3] at this
            exact ge_trans (ge_of_lt hlt) this
      · rename_i hlt
        exact place fun _ => (Bool.not_eq_true _).mp hlt
    · rename_i hst
      exact place fun hne => absurd H.d.ge (by omega)
theorem Hole.set {v : Addr → Int × Int} {s : Nat} {rs : List Addr} {q : Nat} {x : Addr} (hq : q < rs.length) (H : Hole v s rs q) : Hole v s (rs.set q x) q := by
  refine ⟨?_, ?_, H.d⟩
  · intro k h1 h2 h3 h4 h5
    rw [List.length_set] at h2
    rw [gv_set hq, gv_set hq, if_neg h4, if_neg h5]
    exact H.a k h1 h2 h3 h4 h5
  · intro hne c h1 h2 h3
    rw [List.length_set] at h2
    have := H.d.ge
    rw [gv_set hq, gv_set hq, if_neg (by omega), if_neg (by omega)]
    exact H.b hne c h1 h2 h3
theorem sup_from {v : Addr → Int × Int} {rs : List Addr} {p : Nat} (hp : p < rs.length) (H : From v (p + 1) rs) : From v p (sup v rs p) := by
  have H0 : Hole v p rs p := ⟨fun k h1 h2 h3 h4 h5 => H k h1 h2 (by omega), fun h => absurd rfl h, .self⟩
  obtain ⟨H1, hleaf⟩ := su_hole _ rs p rfl hp H0
  have z := su_spec (P := fun _ => True) v _ rs p rfl hp fun _ _ => trivial
  have hq : (su v rs p).2 < (su v rs p).1.length := by rw [z.1]; exact z.2.1
  unfold sup
  refine sd_from _ _ (by rw [List.length_set]; exact hq) (H1.set hq) ?_
  intro c h1 h2 h3
  rw [List.length_set] at h2
  omega
theorem sup_heap {v : Addr → Int × Int} {rs : List Addr} {it : Addr} (h : From v 0 rs) (hl : 0 < rs.length) : From v 0 (sup v (rs.set 0 it) 0) := by
  refine sup_from (by rw [List.length_set]; exact hl) ?_
  intro k h1 h2 h3
  rw [List.length_set] at h2
  rw [gv_set hl, gv_set hl, if_neg (by omega), if_neg (by omega)]
  exact h k h1 h2 (by omega)
theorem hfy_from {v : Addr → Int × Int} : ∀ (k : Nat) (rs : List Addr), k ≤ rs.length → From v k rs → From v 0 (hfy v k rs)
  | 0, _, _, h => h
  | k + 1, rs, hk, h => by
    show From v 0 (hfy v k (sup v rs k))
    exact hfy_from k _ (by rw [sup_length (by omega)]; omega) (sup_from (by omega) h)
theorem hfy_heap {v : Addr → Int × Int} {rs : List Addr} : From v 0 (hfy v (rs.length / 2) rs) :=
  hfy_from _ _ (by omega) fun k h1 h2 h3 => absurd h3 (by omega)
/-- perms -/
theorem hole_perm {rs : List Addr} {q c : Nat} {x : Addr} (hq : q < rs.length) (hc : c < rs.length) (hne : c ≠ q) : ((rs.set q (rs.getD c 0)).set c x).Perm (rs.set q x) := by
  have h := List.set_set_perm (as := rs.set q x) (i := q) (j := c) (by rw [List.length_set]; exact hq) (by rw [List.length_set]; exact hc)
  rw [List.set_set] at h
  have e1 : (rs.set q x)[c]'(by rw [List.length_set]; exact hc) = rs.getD c 0 := by simp [Ne.symm hne, List.getD, hc]
  have e2 : (rs.set q x)[q]'(by rw [List.length_set]; exact hq) = x := by simp
  rw [e1, e2] at h
  exact h
theorem su_perm {v : Addr → Int × Int} {x : Addr} : ∀ (k : Nat) (rs : List Addr) (p : Nat), rs.length - p = k → p < rs.length → ((su v rs p).1.set (su v rs p).2 x).Perm (rs.set p x) := by
  intro k
  induction k using Nat.strongRecOn with
  | ind k ih =>
    intro rs p hk hp
    rw [su.eq_def]
    split
    · rename_i hc
      have h1 := pick_gt v rs p
      have h2 := pick_lt (v := v) hc
      exact (ih (rs.length - pick v rs p) (by omega) _ _ (by rw [List.length_set]) (by rw [List.length_set]; exact h2)).trans (hole_perm hp h2 (by omega))
    · exact List.Perm.refl _
theorem sd_perm {v : Addr → Int × Int} {s : Nat} {x : Addr} : ∀ (q : Nat) (rs : List Addr), q < rs.length → (sd v s x rs q).Perm (rs.set q x) := by
  intro q
  induction q using Nat.strongRecOn with
  | ind q ih =>
    intro rs hq
    rw [sd.eq_def]
    split
    · split
      · exact (ih _ (by omega) _ (by rw [List.length_set]; omega)).trans (hole_perm hq (by omega) (by omega))
      · exact List.Perm.refl _
    · exact List.Perm.refl _
theorem sup_perm {v : Addr → Int × Int} {rs : List Addr} {p : Nat} (hp : p < rs.length) : (sup v rs p).Perm rs := by
  have z := su_spec (P := fun _ => True) v _ rs p rfl hp fun _ _ => trivial
  have hq : (su v rs p).2 < (su v rs p).1.length := by rw [z.1]; exact z.2.1
  unfold sup
  refine (sd_perm _ _ (by rw [List.length_set]; exact hq)).trans ?_
  rw [List.set_set]
  refine (su_perm _ rs p rfl hp).trans ?_
  have : rs.set p (rs.getD p 0) = rs := by
    have e : rs.getD p 0 = rs[p] := by simp [List.getD, hp]
    rw [e]; simp
  rw [this]
theorem hfy_perm {v : Addr → Int × Int} : ∀ (k : Nat) (rs : List Addr), k ≤ rs.length → (hfy v k rs).Perm rs
  | 0, _, _ => List.Perm.refl _
  | k + 1, rs, hk => by
    show (hfy v k (sup v rs k)).Perm rs
    exact (hfy_perm k _ (by rw [sup_length (by omega)]; omega)).trans (sup_perm (by omega))
/-- the top is the greatest -/
theorem top_max {v : Addr → Int × Int} {rs : List Addr} (h : From v 0 rs) : ∀ k, k < rs.length → ltP (gv v rs 0) (gv v rs k) = false := by
  intro k
  induction k using Nat.strongRecOn with
  | ind k ih =>
    intro hk
    by_cases h0 : k = 0
    · subst h0; rw [lt_ff]; omega
    · exact ge_trans (ih ((k - 1) / 2) (by omega) (by omega)) (h k (by omega) hk (by omega))
end Mine
end

section
open PySem PySem.W PyProof.Rows PySem.Calls
set_option Elab.async false
set_option maxRecDepth 100000
namespace Mine
theorem ne_nil {prog : Program} {w : World} {A : Around} {E : Value → Shared → Prop} {s : Shared} {l b : Addr} {rs : List Addr} {n n2 : Nat} {Q : Value → Shared → Prop}
    (hl : s.heap.get? l = some (heapOf rs n)) (hb : s.heap.get? b = some (listOf #[] n2)) (hu : A.units + 64 < cLine)
    (h : Q (.bool (!rs.isEmpty)) s) : wpAny (model prog w) A (compareOp .NotEq (.ref l) (.ref b)) Q E s := by
  cases rs with
  | nil => exact ke_ne_ints (xs := []) (ys := []) (PySem.IsL.isList (n := n) hl) (PySem.IsL.isList (n := n2) hb) .nil .nil hu h
  | cons r rs =>
    exact richCompare_meets_room (op := .NotEq) ⟨_, hl, rfl⟩ ⟨_, hb, rfl⟩ F.slot_list_ne F.entry_list_ne (F.args_list_ne_2 _ _) (SeqAt.list_ne_lengthsAt l b _ #[] n n2 none none #[] #[] (by simp))
      ⟨hl, hb, show Value.bool true ≠ Value.notImplemented ∧ Q (.bool true) s from ⟨(fun x => nomatch x), h⟩⟩ (by omega)
/-- two numbers in order -/
theorem ints_two {vs : List Value} {ns : List Int} {x y : Int} (hi : IntsAre vs ns) (hp : ns.Perm [x, y]) (ho : ns.Pairwise (· ≤ ·)) : ∃ t1 t2, vs = [.int (min x y) t1, .int (max x y) t2] := by
  have hl := hp.length_eq
  cases hi with
  | nil => cases hl
  | cons a t1 hi =>
  cases hi with
  | nil => cases hl
  | cons b t2 hi =>
  cases hi with
  | cons c t3 hi => cases hl
  | nil =>
    refine ⟨t1, t2, ?_⟩
    have hab : a ≤ b := by simpa using ho
    have ha : a = x ∨ a = y := by
      have := hp.mem_iff.mp (List.mem_cons_self (a := a) (l := [b]))
      simpa using this
    have hs : a + b = x + y := by
      have h2 : [a, b] = [x, y] ∨ [a, b] = [y, x] := by
        rcases ha with rfl | rfl
        · have := (List.perm_cons a).mp hp
          have := List.perm_singleton.mp this
          left; rw [this]
        · have := (List.perm_cons a).mp (hp.trans (List.Perm.swap a x []))
          have := List.perm_singleton.mp this
          right; rw [this]
      rcases h2 with h2 | h2 <;> (injection h2 with h3 h4; injection h4 with h4 _; omega)
    have e1 : a = min x y := by omega
    have e2 : b = max x y := by omega
    rw [e1, e2]
end Mine
end

section
open PySem PySem.W PyProof.Rows PySem.Calls
set_option Elab.async false
set_option maxRecDepth 100000
namespace Mine
/-- the end of one turn of a comprehension whose ledger grows -/
structure MEnd {σ : Type} (h₀ : Heap) (L : Addr) (m : Str → Option Value) (s : Shared) (own : List (Addr × Obj)) (off : List (Addr × Obj) → Prop) (led : σ → List (Addr × Obj)) (ysOf : σ → List Value) (ys : List Value) (Inv : σ → Prop) (y : Value) (s' : Shared) : Prop where
  at_ : ∃ c h' tk', s' = { s with heap := h', toks := tk' } ∧ Fr h₀ L h' m ∧ News h₀ L h' (own ++ led c) ∧ off (led c) ∧ ysOf c = ys ++ [y] ∧ Inv c
theorem MEnd.mk' {σ : Type} {h₀ : Heap} {L : Addr} {m : Str → Option Value} {s : Shared} {own : List (Addr × Obj)} {off : List (Addr × Obj) → Prop} {led : σ → List (Addr × Obj)} {ysOf : σ → List Value} {ys : List Value} {Inv : σ → Prop} {y : Value} {h' : Heap} {tk' : Nat}
    (c : σ) (F : Fr h₀ L h' m) (N : News h₀ L h' (own ++ led c)) (ho : off (led c)) (hy : ysOf c = ys ++ [y]) (hI : Inv c) : MEnd h₀ L m s own off led ysOf ys Inv y { s with heap := h', toks := tk' } := ⟨c, h', tk', rfl, F, N, ho, hy, hI⟩
theorem restU {prog : Program} {w : World} {A : Around} {s : Shared} {h₀ : Heap} {L : Addr} {m : Str → Option Value} {env : Env} {elt : Expr} {x : Str} {scope : Scope} {cl : List (Str × Addr)} {S : List (Addr × Obj) → Prop} {P : Nat → Value → Prop} {Fin : List Value → List (Addr × Obj) → Prop} {n : Nat}
    {σ : Type} (Inv : Nat → σ → Prop) (ysOf : σ → List Value) (led : σ → List (Addr × Obj)) (hS : ∀ i c, Inv i c → S (led c))
    (g : ∀ i c, i < n → Inv i c → ∀ v I oI C oC D m₂ h tk (E' : Value → Shared → Prop), P i v → LCg.NsObj oC m₂ → m₂ x = some v → Fr h₀ L h m → News h₀ L h ((I, oI) :: (C, oC) :: (D, LCg.lst (ysOf c)) :: led c) → LCg.Off3 I C D (led c) →
      wpAny (model prog w) A (eval elt (compEnvC scope cl C env)) (MEnd h₀ L m s [(I, oI), (C, oC), (D, LCg.lst (ysOf c))] (LCg.Off3 I C D) led ysOf (ysOf c) (Inv (i + 1))) E' { s with heap := h, toks := tk })
    (fin : ∀ c, Inv n c → Fin (ysOf c) (led c)) : ∀ k i c, i + k = n → Inv i c → LCg.CompRest prog w A h₀ L m env elt x scope cl s S P Fin k i (ysOf c) (led c)
  | 0, i, c, hi, hc => fin c (by rw [show n = i by omega]; exact hc)
  | k + 1, i, c, hi, hc => by
    refine LCg.CompRest.succ fun v I oI C oC D m₂ h tk E' hv hC hx F N off ne => ?_
    refine wpAny_mono (g i c (by omega) hc v I oI C oC D m₂ h tk E' hv hC hx F N off) (fun y s' hr => ?_) fun _ _ e => e
    obtain ⟨c', h', tk', rfl, F', N', off', hy, hI⟩ := hr
    have := restU Inv ysOf led hS g fin k (i + 1) c' (by omega) hI
    rw [hy] at this
    exact ⟨h', tk', led c', rfl, F', N', off', hS _ _ hI, this⟩
theorem off3_of {I C D : Addr} : ∀ {l : List (Addr × Obj)}, (∀ p ∈ l, p.1 ≠ I ∧ p.1 ≠ C ∧ p.1 ≠ D) → LCg.Off3 I C D l
  | [], _ => trivial
  | p :: _, h => ⟨h p (.head _), off3_of fun q hq => h q (.tail _ hq)⟩
/-- a further board -/
def vup (v : Addr → Int × Int) (D : Addr) (z : Int × Int) : Addr → Int × Int := fun a => if a = D then z else v a
theorem vup_self {v : Addr → Int × Int} {D : Addr} {z : Int × Int} : vup v D z D = z := by unfold vup; rw [if_pos rfl]
theorem vup_ne {v : Addr → Int × Int} {D r : Addr} {z : Int × Int} (h : r ≠ D) : vup v D z r = v r := by unfold vup; rw [if_neg h]
theorem IsBd.mem {led : List (Addr × Obj)} {v : Addr → Int × Int} {r : Addr} (h : IsBd led v r) : ∃ o, (r, o) ∈ led := by obtain ⟨t1, t2, n, h⟩ := h; exact ⟨_, h⟩
theorem IsBd.lt {led : List (Addr × Obj)} {v : Addr → Int × Int} {r D : Addr} (h : IsBd led v r) (hD : ∀ p ∈ led, p.1 < D) : r ≠ D := by
  obtain ⟨o, ho⟩ := h.mem
  exact Nat.ne_of_lt (hD _ ho)
theorem IsBd.vup {led led' : List (Addr × Obj)} {v : Addr → Int × Int} {r D : Addr} {z : Int × Int} (h : IsBd led v r) (hs : ∀ p ∈ led, p ∈ led') (hD : r ≠ D) : IsBd led' (vup v D z) r := by
  obtain ⟨t1, t2, n, h⟩ := h
  exact ⟨t1, t2, n, by rw [vup_ne hD]; exact hs _ h⟩
def srt (z : Int × Int) : Int × Int := (min z.1 z.2, max z.1 z.2)
end Mine
end

section
open PySem PySem.W PyProof.Rows
set_option Elab.async false
namespace Mine
structure CutS where
  rs : List Addr
  n : Nat
  v : Addr → Int × Int
  ext : List (Addr × Obj)
  vq : List Value
  e : Nat
  sqs : List Int
def cutsOf (z : Int × Int) : List Int := erun z.2.toNat z.1.toNat
structure CutP (news : List (Addr × Obj)) (v₀ : Addr → Int × Int) (M : Int) (tot : List Int) (hp sq : Addr) (c : CutS) : Prop where
  bd : ∀ r ∈ c.rs, IsBd (c.ext ++ news) c.v r
  old : ∀ p ∈ news, c.v p.1 = v₀ p.1
  ok : From c.v 0 c.rs
  pos : ∀ r ∈ c.rs, 0 < (c.v r).1 ∧ (c.v r).1 ≤ (c.v r).2 ∧ (c.v r).2 < M
  isI : IntsAre c.vq c.sqs
  ord : c.sqs.Pairwise (· ≥ ·)
  top : ∀ z ∈ c.sqs, ∀ r ∈ c.rs, (c.v r).1 ≤ z
  perm : (c.sqs ++ c.rs.flatMap fun r => cutsOf (c.v r)).Perm tot
  len : c.rs.length ≤ 10
  off : ∀ p ∈ c.ext, p.1 ≠ hp ∧ p.1 ≠ sq
theorem toNat_max (a b : Int) : (max a b).toNat = max a.toNat b.toNat := by
  rcases Int.le_total a b with h | h
  · rw [Int.max_eq_right h, Nat.max_eq_right (Int.toNat_le_toNat h)]
  · rw [Int.max_eq_left h, Nat.max_eq_left (Int.toNat_le_toNat h)]
theorem toNat_min (a b : Int) : (min a b).toNat = min a.toNat b.toNat := by
  rcases Int.le_total a b with h | h
  · rw [Int.min_eq_left h, Nat.min_eq_left (Int.toNat_le_toNat h)]
  · rw [Int.min_eq_right h, Nat.min_eq_right (Int.toNat_le_toNat h)]
theorem cuts_self {z : Int × Int} (h0 : 0 < z.1) (h : z.1 = z.2) : cutsOf z = [z.1] := by
  unfold cutsOf
  rw [← h, erun_self (by omega)]
  congr 1; omega
theorem cuts_step {z : Int × Int} (h0 : 0 < z.1) (h : z.1 < z.2) : cutsOf z = z.1 :: cutsOf (srt (z.1, z.2 - z.1)) := by
  unfold cutsOf srt
  dsimp only
  rw [erun_step (lo := z.1.toNat) (hi := z.2.toNat) (by omega) (by omega)]
  have e1 : ((z.1.toNat : Nat) : Int) = z.1 := by omega
  have e2 : (z.2 - z.1).toNat = z.2.toNat - z.1.toNat := by omega
  rw [e1, toNat_max, toNat_min, e2]
theorem cuts_ne {z : Int × Int} (h0 : 0 < z.1) (h : z.1 ≤ z.2) : 0 < (cutsOf z).length := by
  rcases Int.lt_or_eq_of_le h with h | h
  · rw [cuts_step h0 h]; simp
  · rw [cuts_self h0 h]; simp
theorem flat_congr {v v' : Addr → Int × Int} : ∀ {l : List Addr}, (∀ r ∈ l, v' r = v r) → (l.flatMap fun r => cutsOf (v' r)) = l.flatMap fun r => cutsOf (v r)
  | [], _ => rfl
  | a :: l, h => by
    rw [List.flatMap_cons, List.flatMap_cons, h a (.head _), flat_congr fun r hr => h r (.tail _ hr)]
theorem head_max {v : Addr → Int × Int} {r0 : Addr} {rs : List Addr} (h : From v 0 (r0 :: rs)) : ∀ r ∈ r0 :: rs, (v r).1 ≤ (v r0).1 := by
  intro r hr
  obtain ⟨k, hk, rfl⟩ := List.mem_iff_getElem.mp hr
  have := top_max h k hk
  rw [lt_ff] at this
  have e0 : gv v (r0 :: rs) 0 = v r0 := rfl
  have ek : gv v (r0 :: rs) k = v (r0 :: rs)[k] := by
    unfold gv List.getD
    rw [List.getElem?_eq_getElem hk]; rfl
  rw [e0, ek] at this
  omega
theorem cut_pop {news : List (Addr × Obj)} {v₀ v : Addr → Int × Int} {M : Int} {tot sqs : List Int} {hp sq r0 : Addr} {rs rs' : List Addr} {n n' e e' : Nat} {ext : List (Addr × Obj)} {vq : List Value} {t : Tok}
    (P : CutP news v₀ M tot hp sq ⟨r0 :: rs, n, v, ext, vq, e, sqs⟩) (heq : (v r0).1 = (v r0).2) (hperm : rs'.Perm rs) (hfrom : From v 0 rs') :
    CutP news v₀ M tot hp sq ⟨rs', n', v, ext, vq ++ [.int (v r0).1 t], e', sqs ++ [(v r0).1]⟩ := by
  have hsub : ∀ r ∈ rs', r ∈ r0 :: rs := fun r hr => .tail _ (hperm.mem_iff.mp hr)
  have hmax := head_max P.ok
  refine ⟨fun r hr => P.bd r (hsub r hr), P.old, hfrom, fun r hr => P.pos r (hsub r hr), ints_snoc P.isI, ?_, ?_, ?_, ?_, P.off⟩
  · refine List.pairwise_append.mpr ⟨P.ord, List.pairwise_singleton _ _, ?_⟩
    intro z hz y hy
    rw [List.mem_singleton.mp hy]
    exact P.top z hz r0 (.head _)
  · intro z hz r hr
    rcases List.mem_append.mp hz with hz | hz
    · exact P.top z hz r (hsub r hr)
    · rw [List.mem_singleton.mp hz]; exact hmax r (hsub r hr)
  · refine List.Perm.trans ?_ P.perm
    dsimp only
    rw [List.flatMap_cons, cuts_self (P.pos r0 (.head _)).1 heq, List.append_assoc]
    exact List.Perm.append_left _ (List.Perm.append_left _ (hperm.flatMap_right _))
  · have h1 := hperm.length_eq
    have h2 : (r0 :: rs).length ≤ 10 := P.len
    rw [List.length_cons] at h2
    dsimp only
    omega
theorem cut_rep {news : List (Addr × Obj)} {v₀ v : Addr → Int × Int} {M : Int} {tot sqs : List Int} {hp sq r0 D : Addr} {rs rs' : List Addr} {n n' e e' c6 : Nat} {ext : List (Addr × Obj)} {vq : List Value} {t u1 u2 : Tok}
    (P : CutP news v₀ M tot hp sq ⟨r0 :: rs, n, v, ext, vq, e, sqs⟩) (hlt : (v r0).1 < (v r0).2) (hD : ∀ p ∈ ext ++ news, p.1 < D) (hDo : D ≠ hp ∧ D ≠ sq)
    (hperm : rs'.Perm (D :: rs)) (hfrom : From (vup v D (srt ((v r0).1, (v r0).2 - (v r0).1))) 0 rs') :
    CutP news v₀ M tot hp sq ⟨rs', n', vup v D (srt ((v r0).1, (v r0).2 - (v r0).1)), (D, listOf #[.int (srt ((v r0).1, (v r0).2 - (v r0).1)).1 u1, .int (srt ((v r0).1, (v r0).2 - (v r0).1)).2 u2] c6) :: ext, vq ++ [.int (v r0).1 t], e', sqs ++ [(v r0).1]⟩ := by
  have hsub : ∀ r ∈ rs', r = D ∨ r ∈ rs := fun r hr => by simpa using hperm.mem_iff.mp hr
  have hmax := head_max P.ok
  have hne : ∀ r ∈ r0 :: rs, r ≠ D := fun r hr => (P.bd r hr).lt hD
  have p0 := P.pos r0 (.head _)
  generalize hz : srt ((v r0).1, (v r0).2 - (v r0).1) = z at *
  have z1 : z.1 = min (v r0).1 ((v r0).2 - (v r0).1) := by rw [← hz]; rfl
  have z2 : z.2 = max (v r0).1 ((v r0).2 - (v r0).1) := by rw [← hz]; rfl
  dsimp only at p0
  refine ⟨?_, ?_, hfrom, ?_, ints_snoc P.isI, ?_, ?_, ?_, ?_, ?_⟩
  · intro r hr
    rcases hsub r hr with rfl | hr
    · refine ⟨u1, u2, c6, ?_⟩
      dsimp only
      rw [vup_self]
      exact .head _
    · exact (P.bd r (.tail _ hr)).vup (fun p hp => .tail _ hp) (hne r (.tail _ hr))
  · intro p hp
    dsimp only
    rw [vup_ne (Nat.ne_of_lt (hD p (List.mem_append.mpr (.inr hp))))]
    exact P.old p hp
  · intro r hr
    dsimp only
    rcases hsub r hr with rfl | hr
    · rw [vup_self]; omega
    · rw [vup_ne (hne r (.tail _ hr))]; exact P.pos r (.tail _ hr)
  · refine List.pairwise_append.mpr ⟨P.ord, List.pairwise_singleton _ _, ?_⟩
    intro z hz y hy
    rw [List.mem_singleton.mp hy]
    exact P.top z hz r0 (.head _)
  · intro y hy r hr
    dsimp only
    have h1 : (vup v D z r).1 ≤ (v r0).1 := by
      rcases hsub r hr with rfl | hr
      · rw [vup_self]; omega
      · rw [vup_ne (hne r (.tail _ hr))]; exact hmax r (.tail _ hr)
    rcases List.mem_append.mp hy with hy | hy
    · exact Int.le_trans h1 (P.top y hy r0 (.head _))
    · rw [List.mem_singleton.mp hy]; exact h1
  · refine List.Perm.trans ?_ P.perm
    dsimp only
    refine (List.Perm.append_left _ (hperm.flatMap_right _)).trans ?_
    rw [List.flatMap_cons, List.flatMap_cons, vup_self, cuts_step p0.1 hlt, hz, flat_congr fun r hr => vup_ne (hne r (.tail _ hr)), List.append_assoc]
    exact List.Perm.refl _
  · have h1 := hperm.length_eq
    have h2 : (r0 :: rs).length ≤ 10 := P.len
    rw [List.length_cons] at h1 h2
    dsimp only
    omega
  · intro p hp
    rcases List.mem_cons.mp hp with rfl | hp
    · exact hDo
    · exact P.off p hp
theorem from_pre {v : Addr → Int × Int} {ri : List Addr} {y : Addr} (h : From v 0 (ri ++ [y])) : From v 0 ri := by
  intro k h1 h2 h3
  have := h k h1 (by rw [List.length_append]; omega) h3
  have e : ∀ j, j < ri.length → gv v (ri ++ [y]) j = gv v ri j := fun j hj => by simp [gv, List.getD, List.getElem?_append_left hj]
  rw [e k h2, e _ (by omega)] at this
  exact this
theorem from_congr {v v' : Addr → Int × Int} {rs : List Addr} (h : From v 0 rs) (he : ∀ r ∈ rs, v' r = v r) : From v' 0 rs := by
  intro k h1 h2 h3
  have e : ∀ j, j < rs.length → gv v' rs j = gv v rs j := fun j hj => he _ (getD_mem hj)
  rw [e k h2, e _ (by omega)]
  exact h k h1 h2 h3
end Mine
end

section
open PySem PySem.W PyProof.Rows
set_option Elab.async false
namespace Mine
theorem snoc_of {α : Type} : ∀ (a : α) (l : List α), ∃ i y, a :: l = i ++ [y]
  | a, [] => ⟨[], a, rfl⟩
  | a, b :: l => by
    obtain ⟨i, y, h⟩ := snoc_of b l
    exact ⟨a :: i, y, by rw [h]; rfl⟩
theorem pop_end {v : Addr → Int × Int} {r0 y : Addr} {rs ri rs' : List Addr} (hry : r0 :: rs = ri ++ [y]) (h : (ri = [] ∧ rs' = []) ∨ (ri ≠ [] ∧ rs' = sup v (ri.set 0 y) 0)) (ok : From v 0 (r0 :: rs)) : rs'.Perm rs ∧ From v 0 rs' := by
  rcases h with ⟨rfl, rfl⟩ | ⟨hne, rfl⟩
  · have : rs = [] := by
      rw [List.nil_append] at hry
      injection hry
    rw [this]
    exact ⟨.refl _, fun k _ h2 => absurd h2 (by simp)⟩
  · cases ri with
    | nil => exact absurd rfl hne
    | cons a ri =>
      rw [List.cons_append] at hry
      injection hry with h1 h2
      subst h1
      subst h2
      have hl : 0 < (r0 :: ri).length := Nat.succ_pos _
      refine ⟨?_, sup_heap (from_pre (y := y) (by rw [List.cons_append]; exact ok)) hl⟩
      have h := sup_perm (v := v) (rs := (r0 :: ri).set 0 y) (p := 0) (by rw [List.length_set]; exact hl)
      refine h.trans ?_
      rw [List.set_cons_zero]
      exact (List.perm_append_singleton y ri).symm
theorem rep_top {v : Addr → Int × Int} {r0 mk : Addr} {rs : List Addr} (ok : From v 0 (r0 :: rs)) (hm : ∀ r ∈ rs, (v r).1 < (v mk).1) : ∃ t, sup v ((r0 :: rs).set 0 mk) 0 = mk :: t ∧ t.Perm rs := by
  have hl : 0 < (r0 :: rs).length := Nat.succ_pos _
  have hF := sup_heap (it := mk) ok hl
  have hp := sup_perm (v := v) (rs := (r0 :: rs).set 0 mk) (p := 0) (by rw [List.length_set]; exact hl)
  rw [List.set_cons_zero] at hF hp ⊢
  generalize sup v (mk :: rs) 0 = q at hF hp
  cases q with
  | nil => simpa using hp.length_eq
  | cons a t =>
    have ha : a = mk ∨ a ∈ rs := by simpa using hp.mem_iff.mp (List.mem_cons_self (a := a) (l := t))
    have hmk : mk ∈ a :: t := hp.mem_iff.mpr (.head _)
    rcases ha with rfl | ha
    · exact ⟨t, rfl, (List.perm_cons a).mp hp⟩
    · have h1 := head_max hF mk hmk
      have h2 := hm a ha
      omega
theorem rep_end {v : Addr → Int × Int} {r0 mk D : Addr} {rs t : List Addr} {z : Int × Int} (ok : From v 0 (r0 :: rs)) (he : sup v ((r0 :: rs).set 0 mk) 0 = mk :: t) (hp : t.Perm rs) (hne : ∀ r ∈ mk :: t, r ≠ D) :
    (sup (vup v D z) ((mk :: t).set 0 D) 0).Perm (D :: rs) ∧ From (vup v D z) 0 (sup (vup v D z) ((mk :: t).set 0 D) 0) := by
  have hl : 0 < (mk :: t).length := Nat.succ_pos _
  have hF := sup_heap (it := mk) ok (Nat.succ_pos _)
  rw [he] at hF
  refine ⟨?_, sup_heap (from_congr hF fun r hr => vup_ne (hne r hr)) hl⟩
  have h := sup_perm (v := vup v D z) (rs := (mk :: t).set 0 D) (p := 0) (by rw [List.length_set]; exact hl)
  refine h.trans ?_
  rw [List.set_cons_zero]
  exact hp.cons D
theorem cut_start {news ext : List (Addr × Obj)} {v₀ v : Addr → Int × Int} {M : Int} {tot : List Int} {hp sq : Addr} {bs rs : List Addr} {n e : Nat}
    (i1 : rs.length = bs.length) (i2 : ∀ r ∈ rs, IsBd (ext ++ news) v r) (i3 : rs.map v = bs.map fun r => srt (v₀ r)) (i4 : ∀ p ∈ news, v p.1 = v₀ p.1) (hoffA : ∀ p ∈ ext ++ news, p.1 ≠ hp) (hoffB : ∀ p ∈ ext ++ news, p.1 ≠ sq)
    (hpos : ∀ r ∈ bs, 0 < (v₀ r).1 ∧ 0 < (v₀ r).2 ∧ (v₀ r).1 < M ∧ (v₀ r).2 < M) (hlen : bs.length ≤ 10) (htot : (bs.flatMap fun r => erun (v₀ r).1.toNat (v₀ r).2.toNat).Perm tot) :
    CutP news v₀ M tot hp sq ⟨hfy v (rs.length / 2) rs, n, v, ext, [], e, []⟩ := by
  have hP := hfy_perm (v := v) (rs.length / 2) rs (by omega)
  have hsub : ∀ r ∈ hfy v (rs.length / 2) rs, r ∈ rs := fun r hr => hP.mem_iff.mp hr
  refine ⟨fun r hr => i2 r (hsub r hr), i4, hfy_heap, ?_, .nil, .nil, fun _ h => (nomatch h), ?_, ?_, fun p hp => ⟨hoffA p (List.mem_append.mpr (.inl hp)), hoffB p (List.mem_append.mpr (.inl hp))⟩⟩
  · intro r hr
    have h1 : v r ∈ bs.map fun r => srt (v₀ r) := by rw [← i3]; exact List.mem_map_of_mem (hsub r hr)
    obtain ⟨b, hb, he⟩ := List.mem_map.mp h1
    have h2 := hpos b hb
    dsimp only
    rw [← he]
    unfold srt
    dsimp only
    omega
  · refine List.Perm.trans ?_ htot
    dsimp only
    rw [List.nil_append]
    refine (hP.flatMap_right _).trans (.of_eq ?_)
    have e1 : (rs.flatMap fun r => cutsOf (v r)) = (rs.map v).flatMap cutsOf := by rw [List.flatMap_map]
    rw [e1, i3, List.flatMap_map]
    congr 1
    funext r
    unfold cutsOf srt
    dsimp only
    rw [erun_sort (v₀ r).1.toNat (v₀ r).2.toNat, toNat_max, toNat_min]
  · dsimp only
    rw [hP.length_eq]; omega
theorem cut_len {news : List (Addr × Obj)} {v₀ : Addr → Int × Int} {M : Int} {tot : List Int} {hp sq : Addr} {c : CutS} (P : CutP news v₀ M tot hp sq c) (ht : tot.length < 70) : c.sqs.length < 70 ∧ c.vq.length < 70 := by
  have h1 := P.perm.length_eq
  rw [List.length_append] at h1
  have h2 := (IntsAre.areOf P.isI).length
  omega
theorem sq_app {prog : Program} {w : World} {A : Around} {E : Value → Shared → Prop} {s : Shared} {h₀ : Heap} {L D : Addr} {m : Str → Option Value} {rest : List (Addr × Obj)} {vq : List Value} {e : Nat} {x : Value} {Q : Value → Shared → Prop}
    (F : Fr h₀ L s.heap m) (N : News h₀ L s.heap ((D, listOf vq.toArray e) :: rest)) (hne : ∀ p ∈ rest, p.1 ≠ D) (h1 : vq.length ≤ 1000)
    (h : ∀ h', Fr h₀ L h' m → News h₀ L h' ((D, listOf (vq ++ [x]).toArray (e + 1)) :: rest) → Q .none { s with heap := h' }) : wpAny (model prog w) A (call (.builtin "list.append") [.ref D, x]) Q E s := by
  refine append_K F N (Upd.head hne) (fun h' F' N' => h h' F' (by simpa using N')) ?_
  rw [List.size_toArray]
  exact Nat.le_trans h1 (Nat.le_of_ble_eq_true rfl)
end Mine
end

section
open PySem PySem.W PyProof.Rows PySem.Calls
set_option Elab.async false
set_option maxRecDepth 100000
set_option maxHeartbeats 1000000
namespace Mine
theorem calmCut : True := by
  w_top off
  (try walk1)
  all_goals trivial
local macro_rules | `(tactic| k_all) => `(tactic| assumption)
local macro_rules | `(tactic| walk_at "call ref") => `(tactic| (refine Stop.out ?_))
local macro_rules | `(tactic| walk_at "exec While") => `(tactic| (refine Stop.out ?_))
local macro_rules | `(tactic| walk_at "eval ListComp") => `(tactic| (refine Stop.out ?_))
local macro_rules | `(tactic| walk_at "CompSrc") => `(tactic| (refine Stop.out ?_))
local macro_rules | `(tactic| walk_at "call builtin:sorted") => `(tactic| (refine Stop.out ?_))
theorem off1_get {D : Addr} : ∀ {l : List (Addr × Obj)}, LCg.Off1 D l → ∀ p ∈ l, p.1 ≠ D
  | [], _, _, h => nomatch h
  | _ :: _, x, q, h => by
    rcases List.mem_cons.mp h with rfl | h
    · exact x.1
    · exact off1_get x.2 q h
structure CmpS where
  rs : List Addr
  v : Addr → Int × Int
  ext : List (Addr × Obj)
theorem cut_c {w : World} {p : Program} {loose : List Str} {mean : ExcName → Option Value} {mg mb : Str → Option Value} : 
  ∀ {dp un : Nat} {gd : Option (List Code)} {cn : Str} {cs : Scope} {a : Addr} {ccd : Value} {cl : List (Str × Addr)} {A₀ : Around} {base h₀ : Heap} {L : Addr} {m : Str → Option Value} {news : List (Addr × Obj)} {s : Shared} 
    {Q E : Value → Shared → Prop} {bo mk : Addr} {bs : List Addr} {nb : Nat} {v₀ : Addr → Int × Int} {tot : List Int} {M : Int},
    Below A₀ base [] h₀ → Fr h₀ L s.heap m → (Mine.hd.heap_39 w.params).In h₀ → News h₀ L s.heap news → Top p loose mean mg mb h₀ → (Mine.hd.heap_39 w.params).In base → Top p loose mean mg mb base → cs.kind = .function → dp + 80 < recursionLimit → un + 340 < cLine →
    (bo, heapOf bs nb) ∈ news → (∀ r ∈ bs, IsBd news v₀ r) → IsBd news v₀ mk → (v₀ mk).1 = M → 
    (∀ r ∈ bs, 0 < (v₀ r).1 ∧ 0 < (v₀ r).2 ∧ (v₀ r).1 < M ∧ (v₀ r).2 < M) → bs.length ≤ 10 → (bs.flatMap fun r => erun (v₀ r).1.toNat (v₀ r).2.toNat).Perm tot → tot.length < 70 →
    (∀ sq vq e sqs h' tk', Fr h₀ L h' m → News h₀ L h' ((sq, listOf vq.toArray e) :: news) → IntsAre vq sqs → sqs.Perm tot → sqs.Pairwise (· ≥ ·) → Q (.ref sq) { s with heap := h', toks := tk' }) →
    wpAny (model PySem.Challenge.rw_op0091_01.row.prog w) (ktrTop dp un gd cn cs L a ccd cl []) (call (.ref 101) [.ref bo, .ref mk]) Q E s := by
  k_fill
  intro dp un gd cn cs a ccd cl A₀ base h₀ L m news s Q E bo mk bs nb v₀ tot M B F X N T XB TB hk hd hu hbo hbs hmk hM hpos hlen htot htl hQ
  refine wpAny_call ?_
  k_dflt (refine' code_defSX ?k1 ?k2 ?k3 ?k4 ?k5 ?kA ?kF ?kK ?k6 ?k7 ?k8 ?k9 ?kB ?_ ?c2 ?c3 ?c4 ?c5; (case kA => exact rfl); (case kF => exact rfl); (case kK => assumption); (case k1 => k_asm); (case k2 => k_asm); (case k3 => k_asm); (case k4 => k_asm); (case k5 => k_asm); (case k6 => k_is); (case k7 => k_is); (case k8 => ktr_room); (case k9 => exact BindsTo.of_eq rfl); (case c5 => decide); (case kB => exact locs rfl); (case c2 => exact rfl); (case c3 => exact rfl); (case c4 => exact rfl); k_whole)
  intro g' L' h' FG' F' N' B' X' T' D'
  (try dsimp only)
  k_fold
  refine wpAny_noRaise ?_
  k_steps
  refine ⟨?_⟩
  k_dflt (refine LCg.ListComp_U (F₀ := by k_asm) (by rfl) (by decide) (by rfl) (by decide) (by rfl) ?_)
  k_steps
  refine ⟨?_⟩
  k_dflt (refine LCg.CompSrc.ledger rfl (by k_asm) (by k_asm) hbo ?hsz ?_)
  case hsz => rw [List.size_toArray, List.length_map]; exact Nat.le_trans hlen (Nat.le_of_ble_eq_true rfl)
  intro g
  k_dflt (refine restU (σ := CmpS) (fun i c => c.rs.length = i ∧ (∀ r ∈ c.rs, IsBd (c.ext ++ news) c.v r) ∧ c.rs.map c.v = (bs.take i).map (fun r => srt (v₀ r)) ∧ (∀ p ∈ news, c.v p.1 = v₀ p.1) ∧ (∀ p ∈ c.ext, ∀ q ∈ news, q.1 < p.1)) (fun c => c.rs.map Value.ref) (fun c => c.ext ++ news) ?hS ?hg ?hfin _ 0 ⟨[], v₀, []⟩ (Nat.zero_add _) ?h0)
  case hS => intro i c _; exact .inr ⟨_, List.mem_append.mpr (.inr hbo), rfl, _, rfl⟩
  case h0 => exact ⟨rfl, fun _ h => (nomatch h), rfl, fun _ _ => rfl, fun _ h => (nomatch h)⟩
  case hg =>
    rintro i ⟨rs, v, ext⟩ hi ⟨i1, i2, i3, i4, i5⟩ val I oI C oC D m2 h5 tk5 E5 hv hC hx F5 N5 off5
    dsimp only at i1 i2 i3 i4 i5 N5 off5
    simp only [List.getElem?_toArray, List.getElem?_map] at hv
    rw [List.size_toArray, List.length_map] at hi
    have hv2 : bs[i]? = some (bs.getD i 0) := by simp [List.getD, hi]
    rw [hv2] at hv
    cases hv
    have hr := hbs _ (getD_mem hi)
    generalize hr0 : bs.getD i 0 = r at hr hx
    obtain ⟨t1, t2, nr, hrm⟩ := hr
    k_steps
    refine ⟨?_⟩
    k_dflt (refine kso_sorted (ns := [(v₀ r).1, (v₀ r).2]) (by k_asm) N5 (kso_isList N5 (List.Mem.tail _ (.tail _ (.tail _ (List.mem_append.mpr (.inr hrm))))) rfl) (.cons _ _ (.cons _ _ .nil)) (by simp) ?_)
    intro D6 vs6 ns6 c6 h6 F6 N6 lt6 is6 _ pm6 od6 _
    obtain ⟨u1, u2, rfl⟩ := ints_two is6 pm6 od6
    have ltE : ∀ p ∈ ext ++ news, p.1 < D6 := fun p hp => lt6 p (.tail _ (.tail _ (.tail _ hp)))
    refine MEnd.mk' ⟨rs ++ [D6], vup v D6 (srt (v₀ r)), (D6, listOf #[.int (srt (v₀ r)).1 u1, .int (srt (v₀ r)).2 u2] c6) :: ext⟩ F6 ?nN ?nO ?nY ?nI
    case nN =>
      intro p hp
      refine N6 p ?_
      simp only [List.mem_append, List.mem_cons, List.cons_append, List.nil_append] at hp ⊢
      rcases hp with h | h | h | h | h | h
      · exact .inr (.inl h)
      · exact .inr (.inr (.inl h))
      · exact .inr (.inr (.inr (.inl h)))
      · exact .inl h
      · exact .inr (.inr (.inr (.inr (.inl h))))
      · exact .inr (.inr (.inr (.inr (.inr h))))
    case nO =>
      refine ⟨⟨?_, ?_, ?_⟩, off5⟩
      · exact (Nat.ne_of_lt (lt6 (I, oI) (.head _))).symm
      · exact (Nat.ne_of_lt (lt6 (C, oC) (.tail _ (.head _)))).symm
      · exact (Nat.ne_of_lt (lt6 (D, _) (.tail _ (.tail _ (.head _))))).symm
    case nY => simp
    case nI =>
      refine ⟨by simp [i1], ?_, ?_, ?_, ?_⟩
      · intro r' hr'
        rcases List.mem_append.mp hr' with h | h
        · exact (i2 r' h).vup (fun p hp => .tail _ hp) ((i2 r' h).lt ltE)
        · rw [List.mem_singleton.mp h]
          refine ⟨u1, u2, c6, ?_⟩
          dsimp only
          rw [vup_self]
          exact .head _
      · dsimp only
        rw [List.map_append, List.take_add_one, hv2, hr0, List.map_append, ← i3]
        congr 1
        · refine List.map_congr_left fun r' h => vup_ne ((i2 r' h).lt ltE)
        · simp [vup_self]
      · intro p hp
        dsimp only
        rw [vup_ne (Nat.ne_of_lt (ltE p (List.mem_append.mpr (.inr hp))))]
        exact i4 p hp
      · intro p hp q hq
        rcases List.mem_cons.mp hp with rfl | hp
        · exact ltE q (List.mem_append.mpr (.inr hq))
        · exact i5 p hp q hq
  case hfin =>
    rintro ⟨rs, v, ext⟩ ⟨i1, i2, i3, i4, i5⟩
    dsimp only at i1 i2 i3 i4 i5 ⊢
    k_steps
    refine ⟨?_⟩
    rename_i hp hha tkA hoff sq hhb lsq tp hhc ltp hhd hhe hhf F5 N5
    have hoffA : ∀ p ∈ ext ++ news, p.1 ≠ hp := off1_get hoff
    have hoffB : ∀ p ∈ ext ++ news, p.1 ≠ sq := fun p hp => Nat.ne_of_lt (allLt_get lsq.2 p hp)
    have hhs : hp ≠ sq := Nat.ne_of_lt lsq.1
    have N6 : News g' L' _ ((hp, heapOf rs (rs.map Value.ref).length) :: (sq, listOf #[] 0) :: (ext ++ news)) := fun p hp => N5 p (by
      rcases List.mem_cons.mp hp with rfl | hp
      · exact .tail _ (.tail _ (.head _))
      rcases List.mem_cons.mp hp with rfl | hp
      · exact .tail _ (.head _)
      · exact .tail _ (.tail _ (.tail _ hp)))
    clear N5
    have hlen2 : rs.length ≤ 10 := by rw [i1, List.size_toArray, List.length_map]; exact hlen
    have hnA : ∀ p ∈ news, p.1 ≠ hp := fun p hp => hoffA p (List.mem_append.mpr (.inr hp))
    have hnB : ∀ p ∈ news, p.1 ≠ sq := fun p hp => hoffB p (List.mem_append.mpr (.inr hp))
    have hst : ∀ n e, CutP news v₀ M tot hp sq ⟨hfy v (rs.length / 2) rs, n, v, ext, [], e, []⟩ := fun n e => cut_start (bs := bs) (by rw [i1, List.size_toArray, List.length_map]) i2 (by rw [i3, List.size_toArray, List.length_map, List.take_length]) i4 hoffA hoffB hpos hlen htot
    k_dflt (refine' heapify_c (v := v) ?k1 ?k2 ?k3 N6 ?k5 ?k6 ?k7 ?k8 ?k9 ?k10 ?k11 ?_)
    case k1 => k_asm
    case k2 => k_asm
    case k3 => k_asm
    case k5 => k_asm
    case k6 => rfl
    case k7 => show dp + 1 + 20 < recursionLimit; omega
    case k8 => show un + 3 + 140 < cLine; omega
    case k9 =>
      intro p hp'
      rcases List.mem_cons.mp hp' with rfl | hp'
      · exact hhs.symm
      · exact hoffA p hp'
    case k10 => exact fun r hr => (i2 r hr).mono fun p hp => .tail _ hp
    case k11 => omega
    intro h6 tk6 F6 N7
    clear N6 F5
    k_steps
    refine ⟨?_⟩
    rename Fr _ _ _ _ => F7
    rename News _ _ _ _ => N8
    refine wh (σ := CutS) (fun c => (hp, heapOf c.rs c.n) :: (sq, listOf c.vq.toArray c.e) :: (c.ext ++ news))
      (fun c => [(Str.ofString "heap", .ref hp), (Str.ofString "squares", .ref sq), (Str.ofString "mark", .ref mk)])
      (CutP news v₀ M tot hp sq) (fun c => CutP news v₀ M tot hp sq c ∧ c.rs = []) (fun c => 70 - c.sqs.length) ⟨hfy v (rs.length / 2) rs, (rs.map Value.ref).length, v, ext, [], 0, []⟩ F7 N8 (fun _ h => h) ?hk ?hP ?turn ?done PassesOwn.never
    case hk =>
      intro p hp
      simp only [List.mem_cons, List.not_mem_nil, or_false] at hp
      rcases hp with rfl | rfl | rfl <;> with_unfolding_all rfl
    case hP => exact hst _ _
    case done =>
      rintro ⟨rs, n, v, ext, vq, e, sqs⟩ u h2 tk2 ⟨P, hnil⟩ F2 N2
      dsimp only at F2 N2 hnil
      subst hnil
      clear F7 N8 hst i1 i2 i3 i4 i5 hoff hoffA hoffB hlen2
      k_steps
      refine ⟨?_⟩
      refine wpAny_call ?_
      k_dflt (refine' code_def ?k1 ?k2 ?k3 ?k4 ?k5 ?kA ?kF ?kK ?k6 ?k7 ?k8 ?k9 ?kB ?_ ?c2 ?c3 ?c4 ?c5; (case kA => exact rfl); (case kF => exact rfl); (case kK => exact rfl); (case k1 => k_asm); (case k2 => k_asm); (case k3 => k_asm); (case k4 => k_asm); (case k5 => k_asm); (case k6 => k_is); (case k7 => k_is); (case k8 => ktr_room); (case k9 => exact BindsTo.of_eq rfl); (case c5 => decide); (case kB => exact locs rfl); (case c2 => exact rfl); (case c3 => exact rfl); (case c4 => exact rfl); k_whole; intro g2 L2 h3 FG2 F3 N3 B2 X2 T2; (try dsimp only); (try k_fold))
      k_steps
      refine ⟨?_⟩
      refine wpAny_call ?_
      k_dflt (refine' code_def ?k1 ?k2 ?k3 ?k4 ?k5 ?kA ?kF ?kK ?k6 ?k7 ?k8 ?k9 ?kB ?_ ?c2 ?c3 ?c4 ?c5; (case kA => exact rfl); (case kF => exact rfl); (case kK => exact rfl); (case k1 => k_asm); (case k2 => k_asm); (case k3 => k_asm); (case k4 => k_asm); (case k5 => k_asm); (case k6 => k_is); (case k7 => k_is); (case k8 => ktr_room); (case k9 => exact BindsTo.of_eq rfl); (case c5 => decide); (case kB => exact locs rfl); (case c2 => exact rfl); (case c3 => exact rfl); (case c4 => exact rfl); k_whole; intro g2 L2 h3 FG2 F3 N3 B2 X2 T2; (try dsimp only); (try k_fold))
      k_steps
      rename Fr g2 _ _ _ => F4
      rename News g2 _ _ _ => N4
      have z4 := N4 (hp, heapOf [] n) (.tail _ (.head _))
      refine call_meets PySem.F.slot_list_pop ⟨_, z4.1, rfl⟩ PySem.F.entry_list_pop (PySem.F.args_list_pop_1 _) (AutoListH.list_pop_list_0 hp _ n rfl) ⟨z4.1, rfl, ?_⟩
      intro h5 tk5 e5 hx5
      k_steps
      rename Fr h₀ _ _ _ => F9
      rename News h₀ _ _ _ => N9
      refine hQ sq vq e sqs _ _ F9 ?hnQ P.isI ?hpQ P.ord
      case hnQ =>
        intro p hp
        refine N9 p ?_
        rcases List.mem_cons.mp hp with rfl | hp
        · exact .tail _ (.tail _ (.head _))
        · exact .tail _ (.tail _ (.tail _ (List.mem_append.mpr (.inr hp))))
      case hpQ =>
        have h := P.perm
        dsimp only at h
        rwa [List.flatMap_nil, List.append_nil] at h
    case turn =>
      rintro ⟨rs, n, v, ext, vq, e, sqs⟩ u h2 tk2 P F2 N2
      dsimp only at F2 N2
      clear F7 N8 hst i1 i2 i3 i4 i5 hoff hoffA hoffB hlen2
      k_steps
      rename Fr _ _ _ _ => F3
      rename News _ _ _ _ => N3
      k_dflt (refine ne_nil (rs := rs) (n := n) (N3 (hp, _) (.tail _ (.head _))).1 (N3 _ (.head _)).1 ?hu ?_)
      case hu => show un + 3 + 64 < cLine; omega
      cases rs with
      | nil =>
        rw [show (!List.isEmpty ([] : List Addr)) = false from rfl]
        k_steps
        refine WIf.of (fun h => by cases h) fun _ => ?_
        exact WEnd.mk ⟨[], n, v, ext, vq, e, sqs⟩ F3 N3 (fun p hp => .tail _ hp) (by
          intro p hp
          simp only [List.mem_cons, List.not_mem_nil, or_false] at hp
          rcases hp with rfl | rfl | rfl <;> with_unfolding_all rfl) ⟨P, rfl⟩
      | cons r0 rs =>
        rw [show (!List.isEmpty (r0 :: rs)) = true from rfl]
        have hsl : vq.length < 70 := (cut_len P htl).2
        k_steps
        refine len_list (PySem.IsL.isList (n := e) (N3 (sq, listOf vq.toArray e) (.tail _ (.tail _ (.head _)))).1) (by simp; omega) ?_
        rw [List.size_toArray]
        have hsl2 : ((vq.length : Nat) : Int) < 70 := by omega
        k_steps
        refine WIf.of (fun _ => ?_) (fun hb => by cases hb)
        have N4 : News g' L' _ ((hp, heapOf (r0 :: rs) n) :: (sq, listOf vq.toArray e) :: (ext ++ news)) := fun p hp => N3 p (.tail _ hp)
        clear N3
        k_steps
        refine ⟨?_⟩
        have hoffR : ∀ p ∈ (sq, listOf vq.toArray e) :: (ext ++ news), p.1 ≠ hp := fun p hp => by
          rcases List.mem_cons.mp hp with rfl | hp
          · exact hhs.symm
          rcases List.mem_append.mp hp with hp | hp
          · exact (P.off p hp).1
          · exact hnA p hp
        have hbd : ∀ r ∈ r0 :: rs, IsBd ((sq, listOf vq.toArray e) :: (ext ++ news)) v r := fun r hr => (P.bd r hr).mono fun p hp => .tail _ hp
        have hlen3 : (r0 :: rs).length ≤ 10 := P.len
        k_dflt (refine' stands_c (v := v) ?k1 ?k2 ?k3 N4 ?k5 ?k6 ?k7 ?k8 hoffR hbd ?k11 ?k12 ?_)
        case k1 => k_asm
        case k2 => k_asm
        case k3 => k_asm
        case k5 => k_asm
        case k6 => rfl
        case k7 => show dp + 1 + 20 < recursionLimit; omega
        case k8 => show un + 3 + 140 < cLine; omega
        case k11 => omega
        case k12 => exact fun k h1 h2 => P.ok k h1 h2 (Nat.zero_le _)
        intro h7 tk7 F8 N9
        clear N4 F3
        obtain ⟨tl, th, nr, hr0⟩ := hbd r0 (.head _)
        have N10 : News g' L' h7 ((r0, listOf #[.int (v r0).1 tl, .int (v r0).2 th] nr) :: (hp, heapOf (r0 :: rs) n) :: (sq, listOf vq.toArray e) :: (ext ++ news)) := fun p hp => by
          rcases List.mem_cons.mp hp with rfl | hp
          · exact N9 _ (.tail _ hr0)
          · exact N9 p hp
        clear N9
        k_steps
        · rename Fr _ _ _ _ => F4
          rename News _ _ _ _ => N11
          rename (v r0).1 = (v r0).2 => heq
          obtain ⟨ri, y, hry⟩ := snoc_of r0 rs
          have N12 : News g' L' _ ((hp, heapOf (ri ++ [y]) n) :: (sq, listOf vq.toArray e) :: (ext ++ news)) := fun p hp => N11 p (.tail _ (by rw [hry]; exact hp))
          clear N11
          have hsub : ∀ r ∈ ri ++ [y], IsBd ((sq, listOf vq.toArray e) :: (ext ++ news)) v r := fun r hr => hbd r (by rw [hry]; exact hr)
          refine ⟨?_⟩
          k_dflt (refine' heappop_c (v := v) ?k1 ?k2 ?k3 N12 ?k5 ?k6 ?k7 ?k8 hoffR ?k9 ?k10 ?k11 ?_)
          case k1 => k_asm
          case k2 => k_asm
          case k3 => k_asm
          case k5 => k_asm
          case k6 => rfl
          case k7 => show dp + 1 + 20 < recursionLimit; omega
          case k8 => show un + 3 + 140 < cLine; omega
          case k9 => exact fun r hr => hsub r (List.mem_append.mpr (.inl hr))
          case k10 => exact hsub y (List.mem_append.mpr (.inr (.head _)))
          case k11 =>
            have h := congrArg List.length hry
            rw [List.length_append] at h
            omega
          intro h8 tk8 rs' F5 N13 hrs'
          have hgd : (ri ++ [y]).getD 0 0 = r0 := by rw [← hry]; rfl
          rw [hgd]
          clear N12 F4
          k_steps
          rename Fr _ _ _ _ => F6
          rename News _ _ _ _ => N14
          have hoffS : ∀ p ∈ (hp, heapOf rs' (n + 1)) :: (ext ++ news), p.1 ≠ sq := fun p hp => by
            rcases List.mem_cons.mp hp with rfl | hp
            · exact hhs
            rcases List.mem_append.mp hp with hp | hp
            · exact (P.off p hp).2
            · exact hnB p hp
          have N15 : News g' L' _ ((sq, listOf vq.toArray e) :: (hp, heapOf rs' (n + 1)) :: (ext ++ news)) := fun p hp => N14 p (by
            rcases List.mem_cons.mp hp with rfl | hp
            · exact .tail _ (.head _)
            rcases List.mem_cons.mp hp with rfl | hp
            · exact .head _
            · exact .tail _ (.tail _ hp))
          clear N14
          refine sq_app F6 N15 hoffS (by omega) ?_
          intro h9 F7 N16
          k_steps
          rename Fr _ _ _ _ => F8
          rename News _ _ _ _ => N17
          have hend := pop_end hry hrs' P.ok
          refine WEnd.mk ⟨rs', n + 1, v, ext, vq ++ [.int (v r0).1 tl], e + 1, sqs ++ [(v r0).1]⟩ F8 N17 ?hnE ?hkE ⟨cut_pop P heq hend.1 hend.2, ?hmE⟩
          case hnE =>
            intro p hp
            rcases List.mem_cons.mp hp with rfl | hp
            · exact .tail _ (.head _)
            rcases List.mem_cons.mp hp with rfl | hp
            · exact .head _
            · exact .tail _ (.tail _ hp)
          case hkE =>
            intro p hp
            simp only [List.mem_cons, List.not_mem_nil, or_false] at hp
            rcases hp with rfl | rfl | rfl <;> with_unfolding_all rfl
          case hmE =>
            have h := (cut_len P htl).1
            dsimp only at h ⊢
            rw [List.length_append, List.length_singleton]
            omega
        · rename Fr _ _ _ _ => F4
          rename News _ _ _ _ => N11
          rename (v r0).1 ≠ (v r0).2 => hneq
          have hpr0 := P.pos r0 (.head _)
          dsimp only at hpr0
          have hlt : (v r0).1 < (v r0).2 := by omega
          have N12 : News g' L' _ ((hp, heapOf (r0 :: rs) n) :: (sq, listOf vq.toArray e) :: (ext ++ news)) := fun p hp => N11 p (.tail _ hp)
          clear N11
          have hvm : v mk = v₀ mk := by
            obtain ⟨o, ho⟩ := hmk.mem
            exact P.old (mk, o) ho
          have hbm : IsBd ((sq, listOf vq.toArray e) :: (ext ++ news)) v mk := by
            obtain ⟨a1, a2, a3, ha⟩ := hmk
            exact ⟨a1, a2, a3, by rw [hvm]; exact .tail _ (List.mem_append.mpr (.inr ha))⟩
          refine ⟨?_⟩
          k_dflt (refine' heapreplace_c (v := v) (it := mk) ?k1 ?k2 ?k3 N12 ?k5 ?k6 ?k7 ?k8 hoffR hbd hbm ?k9 ?k10 ?_)
          case k1 => k_asm
          case k2 => k_asm
          case k3 => k_asm
          case k5 => k_asm
          case k6 => rfl
          case k7 => show dp + 1 + 20 < recursionLimit; omega
          case k8 => show un + 3 + 140 < cLine; omega
          case k9 => exact Nat.succ_pos _
          case k10 => omega
          intro h8 tk8 F5 N13
          clear N12 F4
          obtain ⟨tls, hrt, hpt⟩ := rep_top (v := v) (mk := mk) P.ok (fun r hr => by
            have h := P.pos r (.tail _ hr)
            dsimp only at h
            rw [hvm, hM]; omega)
          rw [hrt] at N13
          rw [show (r0 :: rs).getD 0 0 = r0 from rfl]
          k_steps
          refine ⟨?_⟩
          rename Fr _ _ _ _ => F6
          rename News _ _ _ _ => N14
          k_dflt (refine kso_sorted (ns := [(v r0).1, (v r0).2 - (v r0).1]) F6 N14 (kso_isList N14 (List.Mem.head _) rfl) (.cons _ _ (.cons _ _ .nil)) (by simp) ?_)
          intro D vs6 ns6 c6 h9 F7 N15 lt6 is6 _ pm6 od6 _
          obtain ⟨u1, u2, rfl⟩ := ints_two is6 pm6 od6
          clear F6 N14
          have ltE : ∀ p ∈ ext ++ news, p.1 < D := fun p hp => lt6 p (.tail _ (.tail _ (.tail _ hp)))
          have hDh : D ≠ hp := (Nat.ne_of_lt (lt6 (hp, heapOf (mk :: tls) n) (.tail _ (.head _)))).symm
          have hDs : D ≠ sq := (Nat.ne_of_lt (lt6 (sq, listOf vq.toArray e) (.tail _ (.tail _ (.head _))))).symm
          generalize hz : srt ((v r0).1, (v r0).2 - (v r0).1) = z
          have hz1 : min (v r0).1 ((v r0).2 - (v r0).1) = z.1 := by rw [← hz]; rfl
          have hz2 : max (v r0).1 ((v r0).2 - (v r0).1) = z.2 := by rw [← hz]; rfl
          rw [hz1, hz2] at N15
          have N16 : News g' L' _ ((hp, heapOf (mk :: tls) n) :: (sq, listOf vq.toArray e) :: (((D, listOf #[.int z.1 u1, .int z.2 u2] c6) :: ext) ++ news)) := fun p hp => N15 p (by
            rcases List.mem_cons.mp hp with rfl | hp
            · exact .tail _ (.tail _ (.head _))
            rcases List.mem_cons.mp hp with rfl | hp
            · exact .tail _ (.tail _ (.tail _ (.head _)))
            rcases List.mem_cons.mp hp with rfl | hp
            · exact .head _
            · exact .tail _ (.tail _ (.tail _ (.tail _ hp))))
          clear N15
          have hneD : ∀ r ∈ mk :: tls, r ≠ D := fun r hr => by
            rcases List.mem_cons.mp hr with rfl | hr
            · exact (hmk.mono fun p hp => List.mem_append.mpr (.inr hp)).lt ltE
            · exact (P.bd r (.tail _ (hpt.mem_iff.mp hr))).lt ltE
          have hbd2 : ∀ r ∈ mk :: tls, IsBd ((sq, listOf vq.toArray e) :: (((D, listOf #[.int z.1 u1, .int z.2 u2] c6) :: ext) ++ news)) (vup v D z) r := fun r hr => by
            refine IsBd.vup (led := (sq, listOf vq.toArray e) :: (ext ++ news)) ?_ ?_ (hneD r hr)
            · rcases List.mem_cons.mp hr with rfl | hr
              · exact hbm
              · exact hbd r (.tail _ (hpt.mem_iff.mp hr))
            · intro p hp
              rcases List.mem_cons.mp hp with rfl | hp
              · exact .head _
              · exact .tail _ (.tail _ hp)
          have hbD : IsBd ((sq, listOf vq.toArray e) :: (((D, listOf #[.int z.1 u1, .int z.2 u2] c6) :: ext) ++ news)) (vup v D z) D := ⟨u1, u2, c6, by rw [vup_self]; exact .tail _ (.head _)⟩
          have hoffR2 : ∀ p ∈ (sq, listOf vq.toArray e) :: (((D, listOf #[.int z.1 u1, .int z.2 u2] c6) :: ext) ++ news), p.1 ≠ hp := fun p hp => by
            rcases List.mem_cons.mp hp with rfl | hp
            · exact hhs.symm
            rcases List.mem_cons.mp hp with rfl | hp
            · exact hDh
            · exact hoffR p (.tail _ hp)
          have hoffS2 : ∀ rs' n', ∀ p ∈ (hp, heapOf rs' n') :: (((D, listOf #[.int z.1 u1, .int z.2 u2] c6) :: ext) ++ news), p.1 ≠ sq := fun rs' n' p hp => by
            rcases List.mem_cons.mp hp with rfl | hp
            · exact hhs
            rcases List.mem_cons.mp hp with rfl | hp
            · exact hDs
            rcases List.mem_append.mp hp with hp | hp
            · exact (P.off p hp).2
            · exact hnB p hp
          have htl2 : (mk :: tls).length ≤ 10 := by
            have h := hpt.length_eq
            rw [List.length_cons] at hlen3 ⊢
            omega
          k_steps
          refine ⟨?_⟩
          k_dflt (refine' heapreplace_c (v := vup v D z) (it := D) ?k1 ?k2 ?k3 N16 ?k5 ?k6 ?k7 ?k8 hoffR2 hbd2 hbD ?k9 ?k10 ?_)
          case k1 => k_asm
          case k2 => k_asm
          case k3 => k_asm
          case k5 => k_asm
          case k6 => rfl
          case k7 => show dp + 1 + 20 < recursionLimit; omega
          case k8 => show un + 3 + 140 < cLine; omega
          case k9 => exact Nat.succ_pos _
          case k10 => omega
          intro h10 tk10 F8 N17
          have hend := rep_end (z := z) P.ok hrt hpt hneD
          clear N16
          rw [show (mk :: tls).getD 0 0 = mk from rfl]
          k_steps
          rename Fr _ _ _ _ => F9
          rename News _ _ _ _ => N18
          generalize hrs2 : sup (vup v D z) ((mk :: tls).set 0 D) 0 = rs2 at N18 hend
          have N19 : News g' L' _ ((sq, listOf vq.toArray e) :: (hp, heapOf rs2 n) :: (((D, listOf #[.int z.1 u1, .int z.2 u2] c6) :: ext) ++ news)) := fun p hp => N18 p (by
            rcases List.mem_cons.mp hp with rfl | hp
            · exact .tail _ (.head _)
            rcases List.mem_cons.mp hp with rfl | hp
            · exact .head _
            · exact .tail _ (.tail _ hp))
          clear N18
          refine sq_app F9 N19 (hoffS2 rs2 n) (by omega) ?_
          intro h11 F10 N20
          clear N19 F9
          k_steps
          rename Fr _ _ _ _ => F11
          rename News _ _ _ _ => N21
          subst hz
          refine WEnd.mk ⟨rs2, n, vup v D (srt ((v r0).1, (v r0).2 - (v r0).1)), (D, listOf #[.int (srt ((v r0).1, (v r0).2 - (v r0).1)).1 u1, .int (srt ((v r0).1, (v r0).2 - (v r0).1)).2 u2] c6) :: ext, vq ++ [.int (v r0).1 tl], e + 1, sqs ++ [(v r0).1]⟩ F11 N21 ?hnF ?hkF ⟨cut_rep P hlt ltE ⟨hDh, hDs⟩ hend.1 hend.2, ?hmF⟩
          case hnF =>
            intro p hp
            rcases List.mem_cons.mp hp with rfl | hp
            · exact .tail _ (.head _)
            rcases List.mem_cons.mp hp with rfl | hp
            · exact .head _
            · exact .tail _ (.tail _ hp)
          case hkF =>
            intro p hp
            simp only [List.mem_cons, List.not_mem_nil, or_false] at hp
            rcases hp with rfl | rfl | rfl <;> with_unfolding_all rfl
          case hmF =>
            have h := (cut_len P htl).1
            dsimp only at h ⊢
            rw [List.length_append, List.length_singleton]
            omega
end Mine
end

section
open PySem PySem.Spec PySem.W PyProof.Rows PySem.Calls
set_option Elab.async false
set_option maxRecDepth 100000
set_option maxHeartbeats 2000000
namespace Mine
section
variable {prog : Program} {w : World} {A : Around} {E : Value → Shared → Prop} {s : Shared} {h₀ : Heap} {m : Str → Option Value} {env : Env}
/-- a list of two unpacked -/
theorem assign_two {elts : List Expr} {k : Nat} {pos : Pos} {t : Addr} {items : Array Value} {Q : Unit → Shared → Prop} (hh : A.handled = none) (ht : s.heap.IsList t items) (hn : (assignEach elts env).length = items.size) (hstar : (assignEach elts env).findIdx? (·.1) = none)
    (h : ∀ h', Heap.ExtBut s.heap.objs.size s.heap h' → wpAny (model prog w) A (assignInOrder ((assignEach elts env).map (·.2)) items.toList) Q E { s with heap := h' }) : wpAny (model prog w) A (assign (.Tuple elts k pos) env (.ref t)) Q E s := by
  rw [assign_Tuple]
  refine wpAny_bind (wpAny_standAt ?_)
  unfold unpack
  rw [hn, hstar]
  exact wpAny_bind (wpAny_holding (kun_itemsOf hh ht h))

/-- what a comprehension over a list of two-item lists needs, once its source is known -/
def Src2 (prog : Program) (w : World) (A : Around) (h₀ : Heap) (m : Str → Option Value) (env : Env) (elt : Expr) (x x₂ y : Str) (scope : Scope) (cl : List (Str × Addr)) (Q : Flow → Shared → Prop) (xv : Value) (s₁ : Shared) : Prop :=
  ∃ (bo : Addr) (its : Array Value) (σ : Type) (Inv : Nat → σ → Prop) (ysOf : σ → List Value) (led : σ → List (Addr × Obj)) (c₀ : σ),
    xv = .ref bo ∧ A.handled = none ∧ Fr h₀ env.locals s₁.heap m ∧ News h₀ env.locals s₁.heap (led c₀) ∧ its.size ≤ sizeLine ∧ Inv 0 c₀ ∧ ysOf c₀ = [] ∧ (∀ i c, Inv i c → (ysOf c).length = i ∧ ∃ n, (bo, listOf its n) ∈ led c) ∧
    (∀ i c, i < its.size → Inv i c → ∃ t v₁ v₂ nt, its[i]? = some (.ref t) ∧ (t, listOf #[v₁, v₂] nt) ∈ led c ∧
      ∀ I oI C oC D m₂ h tk (E' : Value → Shared → Prop), LCg.NsObj oC m₂ → m₂ x = some v₁ → m₂ x₂ = some v₂ → Fr h₀ env.locals h m → News h₀ env.locals h ((I, oI) :: (C, oC) :: (D, LCg.lst (ysOf c)) :: led c) → LCg.Off3 I C D (led c) →
        wpAny (model prog w) A (eval elt (compEnvC scope cl C env)) (MEnd h₀ env.locals m s₁ [(I, oI), (C, oC), (D, LCg.lst (ysOf c))] (LCg.Off3 I C D) led ysOf (ysOf c) (Inv (i + 1))) E' { s₁ with heap := h, toks := tk }) ∧
    (∀ c, Inv its.size c → ∀ D h tk, Fr h₀ env.locals h (fun z => if z = y then some (.ref D) else m z) → News h₀ env.locals h ((D, LCg.lst (ysOf c)) :: led c) → LCg.Off1 D (led c) → Q .next { s₁ with heap := h, toks := tk })

theorem assign_comp2 {elt iter : Expr} {x x₂ y : Str} {px px₂ tp py : Pos} {tk} {scope : Scope} {cl : List (Str × Addr)} {pos spos : Pos} {Q : Flow → Shared → Prop} (F₀ : Fr h₀ env.locals s.heap m)
    (hsw : swapsWith (.ListComp elt [⟨.Tuple [.Name x px, .Name x₂ px₂] tk tp, iter, [], 0⟩] scope pos) (some (.Name y py)) spos.line env = pure true)
    (hclos : closureFor scope env = pure cl) (hcell : ∀ z ∈ scope.names, z.2 ≠ .cell) (hkind : scope.kind = .function)
    (hnames : ∀ z ∈ scope.names, z.2 = .local → scope.names.lookup z.1 = some .local) (hx : scope.names.lookup x = some .local) (hx₂ : scope.names.lookup x₂ = some .local) (hxx : x ≠ x₂)
    (hy : env.kindOf y = some .local) (hp : (env.scope.kind == .class || (env.scope.kind == .module && env.locals != env.globals)) = false)
    (h : wpAny (model prog w) A (eval iter env) (Src2 prog w A h₀ m env elt x x₂ y scope cl Q) E s)
    (hs : ∀ x, foldedSetIterable iter env x = pure x := by intro _; rfl) :
    wpAny (model prog w) A (exec (.Assign [.Name y py] (.ListComp elt [⟨.Tuple [.Name x px, .Name x₂ px₂] tk tp, iter, [], 0⟩] scope pos) spos) env) Q E s := by
  rw [exec_Assign_Name_used _ _ _ _ hsw]
  refine wpAny_bind (wpAny_standAt (wpAny_bind ?_))
  show wpAny _ A (do let _ ← comprehension (.ListComp elt [⟨.Tuple [.Name x px, .Name x₂ px₂] tk tp, iter, [], 0⟩] scope pos) scope env _ (newList []) false (eval iter env) (some (assign (.Name y py) env))) _ _ s
  refine wpAny_bind (wpAny_mono (wpAny_comprehension_free (use := some (assign (.Name y py) env)) (Q := fun _ s' => Q .next s') rfl hs hclos hkind hnames
    (wpAny_mono h (fun xv s₁ h₁ => ?_) fun _ _ e => e)) (fun _ s' hq => wpAny_pure (wpAny_pure hq)) fun _ _ e => e)
  obtain ⟨bo, its, σ, Inv, ysOf, led, c₀, rfl, hh, F, N, hsz, hI0, hy0, hled, turn, done⟩ := h₁
  have hlist : ∀ {i c hp}, Inv i c → News h₀ env.locals hp (led c) → hp.IsList bo its := fun hi N => by
    obtain ⟨_, n, hm⟩ := hled _ _ hi
    exact PySem.IsL.isList (n := n) (N _ hm).1
  have hl := hlist hI0 N
  have hlt : bo < s₁.heap.objs.size := by obtain ⟨_, e, _⟩ := hl; exact Heap.lt_size e
  refine wpAny_pyIter_list hl ?_
  -- the iterator, the accumulator, the turn's frame
  generalize hI : s₁.heap.objs.size = I at hlt
  generalize hH1 : s₁.heap.push { cls := .type "list_iterator", data := .fields #[.ref bo, .int 0 0] } = H1
  have up1 : ∀ b o, s₁.heap.get? b = some o → H1.get? b = some o := fun b o e => hH1 ▸ Heap.get?_push_of_some _ e
  have hit1 : H1.IsListIter I bo 0 := by subst hH1; subst hI; exact ⟨_, Heap.get?_push_size _ rfl, rfl, rfl⟩
  have hz1 : H1.objs.size = I + 1 := by rw [← hH1, Heap.size_push, hI]
  refine wpAny_newObj_type (wpAny_newFunctionEnv hcell (by intro z hz; simp at hz) (fun h₁ hns₁ hsb₁ => ?_) hkind)
  dsimp only at hns₁ hsb₁ ⊢
  generalize hH2 : H1.push { cls := .type "list", dict := none, data := .seq ([] : List Value).toArray } = H2 at hns₁ hsb₁ ⊢
  generalize hD : H1.objs.size = D at hns₁ hsb₁ ⊢
  generalize hC : H2.objs.size = C at hns₁ hsb₁ ⊢
  have eD : D = I + 1 := by rw [← hD, hz1]
  have eC : C = I + 2 := by rw [← hC, ← hH2, Heap.size_push, hz1]
  have hID : I < D := by rw [eD]; exact Nat.lt_succ_self _
  have hDC : D < C := by rw [eD, eC]; exact Nat.lt_succ_self _
  have hIC : I < C := Nat.lt_trans hID hDC
  have old : ∀ b o, s₁.heap.get? b = some o → h₁.get? b = some o := fun b o e => by
    have hb := Heap.lt_size e
    rw [hI] at hb
    exact hsb₁.extBut b o (Nat.ne_of_lt (Nat.lt_trans hb hIC)) (Heap.get?_push_of_some _ (hH2 ▸ Heap.get?_push_of_some _ (up1 b o e)))
  have hacc : h₁.get? D = some (LCg.lst []) := hsb₁.extBut _ _ (Nat.ne_of_lt hDC) (Heap.get?_push_of_some _ (by subst hH2; subst hD; exact Heap.get?_push_size _ rfl))
  have hit : h₁.IsListIter I bo 0 := hit1.at fun o e => hsb₁.extBut I o (Nat.ne_of_lt hIC) (Heap.get?_push_of_some _ (hH2 ▸ Heap.get?_push_of_some _ e))
  have fresh : ∀ a, I ≤ a → h₀.get? a = none := fun a ha => by
    cases e : h₀.get? a with
    | none => rfl
    | some o =>
      have := Heap.lt_size (F.keep a o e)
      rw [hI] at this
      exact absurd this (Nat.not_lt.mpr ha)
  have hLlt : env.locals < I := by rw [← hI]; exact F.ns.lt
  have fI := fresh I (Nat.le_refl _)
  have fD := fresh D (Nat.le_of_lt hID)
  have fC := fresh C (Nat.le_of_lt hIC)
  have nLI : env.locals ≠ I := Nat.ne_of_lt hLlt
  have nLD : D ≠ env.locals := (Nat.ne_of_lt (Nat.lt_trans hLlt hID)).symm
  have nLC : C ≠ env.locals := (Nat.ne_of_lt (Nat.lt_trans hLlt hIC)).symm
  have nDI : D ≠ I := (Nat.ne_of_lt hID).symm
  have nIC : I ≠ C := Nat.ne_of_lt hIC
  have nDC : D ≠ C := Nat.ne_of_lt hDC
  have hcI : C ∉ [I] := fun h => nIC (List.mem_singleton.mp h).symm
  have offL : ∀ {p : Addr × Obj}, p ∈ led c₀ → p.1 < I := fun hp => by rw [← hI]; exact Heap.lt_size (N _ hp).1
  have loop : ∀ s₃ : Shared, s₃ = { s₁ with heap := h₁, toks := s₁.toks + ([] : List (Str × Value)).length } →
      codeAny (model prog w) A (.compLoop (.ListComp elt [⟨.Tuple [.Name x px, .Name x₂ px₂] tk tp, iter, [], 0⟩] scope pos) 0 (.ref I) (.ref D) (compEnvC scope cl C env))
        (fun r s' => r = .ok .next ∧ ∃ c h' tk' m', s' = { s₁ with heap := h', toks := tk' } ∧ Inv its.size c ∧ Fr h₀ env.locals h' m ∧ h'.Ns C m' ∧ News h₀ env.locals h' ((D, LCg.lst (ysOf c)) :: led c) ∧ LCg.Off3 I C D (led c)) s₃ := by
    rintro s₃ rfl
    refine LCp.codeAny_compLoop_pair
      (fun k s' => ∃ i c h' tk' m', s' = { s₁ with heap := h', toks := tk' } ∧ i ≤ its.size ∧ k = its.size + 1 - i ∧ Inv i c ∧ h'.IsListIter I bo i ∧ Fr h₀ env.locals h' m ∧ h'.Ns C m' ∧ News h₀ env.locals h' ((D, LCg.lst (ysOf c)) :: led c) ∧ LCg.Off3 I C D (led c)) ?_ (its.size + 1)
      ⟨0, c₀, h₁, _, _, rfl, Nat.zero_le _, rfl, hI0, hit, F.keeps old, hns₁, ?_, ?_⟩
    · rintro k s' ⟨i, c, h', tk', m', rfl, hi, rfl, hIc, hit', F', hn', N', off'⟩
      have Nl : News h₀ env.locals h' (led c) := fun p hp => N' p (.tail _ hp)
      have hlc := hlist hIc Nl
      by_cases hlt2 : i < its.size
      · obtain ⟨t, v₁, v₂, nt, hti, htm, hturn⟩ := turn i c hlt2 hIc
        refine wpAny_pyNext_list_item hit' hlc hti fun h₂ hit₂ hs₂ => ?_
        have keep2 : ∀ b o, b ∉ [I] → h'.get? b = some o → h₂.get? b = some o := fun b o hb e => hs₂.extBut b o (by simpa using hb) e
        refine wpAny_letOwnedTupleGo_listiter hit₂ ?_
        have offm := off'.mem
        have F₂ := LCg.fr_but F' keep2 nLI fI
        have N₂ : News h₀ env.locals h₂ ((D, LCg.lst (ysOf c)) :: led c) := LCg.news_but N' keep2 fun p hp => by
          rcases List.mem_cons.mp hp with rfl | hp
          · exact nDI
          · exact (offm p hp).1
        refine assign_two (items := #[v₁, v₂]) hh (PySem.IsL.isList (n := nt) (N₂ _ (.tail _ htm)).1) rfl rfl fun h₃ he₃ => ?_
        have keep3 : ∀ b o, h₂.get? b = some o → h₃.get? b = some o := fun b o e => he₃ b o (Nat.ne_of_lt (Heap.lt_size e)) e
        have hn3 : h₃.Ns C m' := (hn'.at' fun o e => keep2 C o hcI e).at' fun o e => keep3 _ o e
        refine assignInOrder_cons (wpAny_assign_Name (wpAny_storeName_local (lookup_relabel_local hx) hn3 (fun h₄ hn₄ hs₄ => ?_) (by simp [compEnvC, relabel, hkind])))
        refine assignInOrder_cons (wpAny_assign_Name (wpAny_storeName_local (lookup_relabel_local hx₂) hn₄ (fun h₅ hn₅ hs₅ => ?_) (by simp [compEnvC, relabel, hkind])))
        refine assignInOrder_nil ?_
        have keep5 : ∀ b o, b ≠ C → h₂.get? b = some o → h₅.get? b = some o := fun b o hb e => hs₅.extBut b o hb (hs₄.extBut b o hb (keep3 b o e))
        obtain ⟨oI, heI, _, _⟩ := id hit₂
        obtain ⟨oC, heC, hoC⟩ := LCg.ns_obj hn₅
        have F₅ : Fr h₀ env.locals h₅ m := ((F₂.keeps keep3).change hs₄ nLC fC).change hs₅ nLC fC
        have N₅ : News h₀ env.locals h₅ ((I, oI) :: (C, oC) :: (D, LCg.lst (ysOf c)) :: led c) := fun p hp => by
          rcases List.mem_cons.mp hp with rfl | hp
          · exact ⟨keep5 _ _ nIC heI, nLI.symm, fI⟩
          rcases List.mem_cons.mp hp with rfl | hp
          · exact ⟨heC, nLC, fC⟩
          · refine ⟨keep5 _ _ ?_ (N₂ p hp).1, (N₂ p hp).2⟩
            rcases List.mem_cons.mp hp with rfl | hp
            · exact nDC
            · exact (offm p hp).2.1
        refine wpAny_mono (hturn I oI C oC D _ h₅ _ _ hoC (by simp [hxx]) (by simp) F₅ N₅ off') (fun r s₄ hr => ?_) fun _ _ e => e
        obtain ⟨⟨c', h₆, tk₆, rfl, F₆, N₆, off₆, hy₆, hI₆⟩⟩ := hr
        have zI := (N₆ (I, oI) (.head _)).1
        have zC := (N₆ (C, oC) (.tail _ (.head _))).1
        have zD := (N₆ (D, LCg.lst (ysOf c)) (.tail _ (.tail _ (.head _)))).1
        refine append_at (hsz := by show (ysOf c).toArray.size ≤ sizeLine; rw [List.size_toArray, (hled _ _ hIc).1]; exact Nat.le_trans hi hsz) zD fun h₇ hs₇ hD₇ => ?_
        have off6 := off₆.mem
        refine ⟨its.size + 1 - (i + 1), by omega, i + 1, c', h₇, _, _, rfl, hlt2, rfl, hI₆, ?_, F₆.change hs₇ nLD fD, (hoC.ns zC).sameBut hs₇ nDC.symm, ?_, off₆⟩
        · obtain ⟨o, e, hc⟩ := hit₂
          rw [heI] at e
          cases e
          exact ⟨oI, hs₇.extBut _ _ nDI.symm zI, hc⟩
        · intro p hp
          rcases List.mem_cons.mp hp with rfl | hp
          · rw [hy₆]
            exact ⟨hD₇.trans (congrArg some (LCg.lst_snoc _ _)), nLD, fD⟩
          · have z := N₆ p (.tail _ (.tail _ (.tail _ hp)))
            exact ⟨hs₇.extBut _ _ (off6 p hp).2.2 z.1, z.2⟩
      · obtain rfl : i = its.size := Nat.le_antisymm hi (Nat.not_lt.mp hlt2)
        refine wpAny_pyNext_list_end hh hit' hlc (by simp) fun h₂ he₂ => ?_
        have keep2 : ∀ b o, b ∉ [I] → h'.get? b = some o → h₂.get? b = some o := fun b o hb e => he₂ b o (by simpa using hb) e
        refine ⟨rfl, c, h₂, _, m', rfl, hIc, LCg.fr_but F' keep2 nLI fI, hn'.at' fun o e => keep2 C o hcI e, LCg.news_but N' keep2 fun p hp => ?_, off'⟩
        rcases List.mem_cons.mp hp with rfl | hp
        · exact nDI
        · exact (off'.mem p hp).1
    · intro p hp
      rcases List.mem_cons.mp hp with rfl | hp
      · rw [hy0]; exact ⟨hacc, nLD, fD⟩
      · exact ⟨old _ _ (N p hp).1, (N p hp).2⟩
    · refine LCg.Off3.of fun p hp => ?_
      have h := offL hp
      exact ⟨Nat.ne_of_lt h, Nat.ne_of_lt (Nat.lt_trans h hIC), Nat.ne_of_lt (Nat.lt_trans h hID)⟩
  refine codeAny_compStart_list (codeAny_mono (loop _ rfl) ?_) (wpAny_pyIter_listiter hit (codeAny_mono (loop _ rfl) ?_))
  all_goals
    rintro r s' ⟨rfl, c, h', tk', m', rfl, hIc, F', hn', N', off'⟩
    show wpAny _ A (assign (.Name y py) env (.ref D)) _ _ _
    refine wpAny_assign_Name (wpAny_storeName_local hy F'.ns (fun h₂ hn₂ hs₂ => ?_) hp)
    have hL₀ : h₀.get? env.locals = none := Heap.get?_none_of_le F'.above
    have F₂ : Fr h₀ env.locals h₂ (fun z => if z = y then some (.ref D) else m z) := ⟨hn₂, fun b o e => hs₂.extBut b o (fun q => by rw [q, hL₀] at e; cases e) (F'.keep b o e), F'.above⟩
    refine ⟨m', hn'.sameBut hs₂ nLC, fun h'' hs'' => done c hIc D h'' _ (F₂.change hs'' nLC fC) (fun p hp => ?_) off'.one⟩
    refine ⟨hs''.extBut _ _ ?_ (hs₂.extBut _ _ (N' p hp).2.1 (N' p hp).1), (N' p hp).2⟩
    rcases List.mem_cons.mp hp with rfl | hp
    · exact nDC
    · exact (off'.mem p hp).2.1
end
end Mine
end

section
open PySem PySem.Spec PySem.W PyProof.Rows PySem.Calls
set_option Elab.async false
set_option maxRecDepth 100000
set_option maxHeartbeats 2000000
namespace Mine
section
variable {prog : Program} {w : World} {A : Around} {E : Value → Shared → Prop} {s : Shared} {h₀ : Heap} {env : Env}
/-- a for with two names over a list of two-item lists, by an invariant -/
def For2At (prog : Program) (w : World) (A : Around) (h₀ : Heap) (env : Env) (target : Expr) (body : List Stmt) (Q : Flow → Shared → Prop) (E : Value → Shared → Prop) (xv : Value) (s₁ : Shared) : Prop :=
  ∃ (bo : Addr) (its : Array Value) (σ : Type) (Led : σ → List (Addr × Obj)) (ps : σ → List (Str × Value)) (P : Nat → σ → Prop) (c₀ : σ) (m₀ : Str → Option Value),
    xv = .ref bo ∧ A.handled = none ∧ Fr h₀ env.locals s₁.heap m₀ ∧ News h₀ env.locals s₁.heap (Led c₀) ∧ (∀ p ∈ ps c₀, m₀ p.1 = some p.2) ∧ P 0 c₀ ∧ (∀ i c, P i c → ∃ n, (bo, listOf its n) ∈ Led c) ∧
    (∀ i : Nat, i < its.size → ∃ t : Addr, its[i]? = some (.ref t)) ∧
    (∀ i c (u : Str → Option Value) h tk I oI t, i < its.size → its[i]? = some (.ref t) → P i c → Fr h₀ env.locals h (kstB u (ps c)) → News h₀ env.locals h ((I, oI) :: Led c) → (∀ p ∈ Led c, p.1 ≠ I) → (∃ j : Int, oI.data = .fields #[.ref bo, .int j 0]) →
      wpAny (model prog w) A (assign target env (.ref t)) (fun _ s₂ => wpAny (model prog w) A (execs body env)
        (FPost h₀ env.locals s₁ Led ps [(I, oI)] (fun c' => P (i + 1) c' ∧ ∀ p ∈ Led c', p.1 ≠ I) Q) E s₂) E { s₁ with heap := h, toks := tk }) ∧
    (∀ c (u : Str → Option Value) h tk, P its.size c → Fr h₀ env.locals h (kstB u (ps c)) → News h₀ env.locals h (Led c) → Q .next { s₁ with heap := h, toks := tk })
theorem for2 {elts : List Expr} {k : Nat} {tp : Pos} {iter : Expr} {pos : Pos} {body : List Stmt} {Q : Flow → Shared → Prop} {m : Str → Option Value} (_F : Fr h₀ env.locals s.heap m)
    (h : wpAny (model prog w) A (eval iter env) (For2At prog w A h₀ env (.Tuple elts k tp) body Q E) E s)
    (hs : ∀ x, foldedSetIterable iter env x = pure x := by intro _; rfl) (hE : PassesOwn (model prog w) A env E := by passes_own) :
    wpAny (model prog w) A (exec (.For (.Tuple elts k tp) iter body [] pos) env) Q E s := by
  refine wpAny_For (wpAny_mono h (fun xv s₁ h₁ => ?_) fun _ _ e => e) hs
  obtain ⟨bo, its, σ, Led, ps, P, c₀, m₀, rfl, hh, F, N, hk, hP, hbo, hits, turn, done⟩ := h₁
  have hlist : ∀ {i c hp}, P i c → News h₀ env.locals hp (Led c) → hp.IsList bo its := fun hi N => by
    obtain ⟨n, hm⟩ := hbo _ _ hi
    exact PySem.IsL.isList (n := n) (N _ hm).1
  have hl := hlist hP N
  refine wpAny_pyIter_list hl ?_
  generalize hI : s₁.heap.objs.size = I
  have up : ∀ b o, s₁.heap.get? b = some o → (s₁.heap.push { cls := .type "list_iterator", data := .fields #[.ref bo, .int 0 0] }).get? b = some o := fun b o e => Heap.get?_push_of_some _ e
  have fI : h₀.get? I = none := hI ▸ next_is_new F
  have nLI : env.locals ≠ I := by rw [← hI]; exact Nat.ne_of_lt F.ns.lt
  refine codeAny_forLoop_any
    (fun k s' => ∃ i c h' tk' m', s' = { s₁ with heap := h', toks := tk' } ∧ i ≤ its.size ∧ k = its.size + 1 - i ∧ P i c ∧ h'.IsListIter I bo i ∧ Fr h₀ env.locals h' m' ∧ News h₀ env.locals h' (Led c) ∧ (∀ p ∈ Led c, p.1 ≠ I) ∧ (∀ p ∈ ps c, m' p.1 = some p.2)) ?_ (its.size + 1)
    ⟨0, c₀, _, _, m₀, rfl, Nat.zero_le _, rfl, hP, ?_, F.keeps up, N.grown up, fun p hp => ?_, hk⟩
  · rintro k s' ⟨i, c, h', tk', m', rfl, hi, rfl, hIc, hit', F', N', off', hk'⟩
    have hlc := hlist hIc N'
    by_cases hlt2 : i < its.size
    · obtain ⟨t, hti⟩ := hits i hlt2
      refine wpAny_pyNext_list_item hit' hlc hti fun h₂ hit₂ hs₂ => ?_
      have keep2 : ∀ b o, b ∉ [I] → h'.get? b = some o → h₂.get? b = some o := fun b o hb e => hs₂.extBut b o (by simpa using hb) e
      refine wpAny_letOwnedTupleGo_listiter hit₂ ?_
      obtain ⟨oI, heI, hcI, hdI⟩ := hit₂
      have N₂ : News h₀ env.locals h₂ ((I, oI) :: Led c) := List.forall_mem_cons.mpr ⟨⟨heI, nLI.symm, fI⟩, LCg.news_but N' keep2 off'⟩
      refine wpAny_mono (turn i c m' h₂ _ I oI t hlt2 hti hIc (by rw [kstB_self hk']; exact LCg.fr_but F' keep2 nLI fI) N₂ off' ⟨_, hdI⟩) (fun _ s₂ h₃ => wpAny_passesOwn hE (wpAny_mono h₃ (fun f s₃ q => ?_) fun _ _ x => x)) hE
      have fin : FEnd h₀ env.locals s₁ Led ps [(I, oI)] (fun c' => P (i + 1) c' ∧ ∀ p ∈ Led c', p.1 ≠ I) s₃ → ∃ m, m < its.size + 1 - i ∧ ∃ i c h' tk' m', s₃ = { s₁ with heap := h', toks := tk' } ∧ i ≤ its.size ∧ m = its.size + 1 - i ∧ P i c ∧ h'.IsListIter I bo i ∧ Fr h₀ env.locals h' m' ∧ News h₀ env.locals h' (Led c) ∧ (∀ p ∈ Led c, p.1 ≠ I) ∧ (∀ p ∈ ps c, m' p.1 = some p.2) := by
        rintro ⟨c₃, h₃, tk₃, m₃, news₃, rfl, F₃, N₃, hn₃, ho₃, hk₃, hP₃, hoff₃⟩
        exact ⟨its.size + 1 - (i + 1), by omega, i + 1, c₃, h₃, tk₃, m₃, rfl, hlt2, rfl, hP₃, ⟨oI, (N₃ _ (ho₃ _ (.head _))).1, hcI, hdI⟩, F₃, fun p hp => N₃ p (hn₃ p hp), hoff₃, hk₃⟩
      cases f with
      | ret v => exact q
      | brk => exact q
      | next => exact fin q
      | cont => exact fin q
    · obtain rfl : i = its.size := Nat.le_antisymm hi (Nat.not_lt.mp hlt2)
      refine wpAny_pyNext_list_end hh hit' hlc (by simp) fun h₂ he₂ => ?_
      have keep2 : ∀ b o, b ∉ [I] → h'.get? b = some o → h₂.get? b = some o := fun b o hb e => he₂ b o (by simpa using hb) e
      refine wpAny_execs_nil ?_
      exact done c m' h₂ _ hIc (by rw [kstB_self hk']; exact LCg.fr_but F' keep2 nLI fI) (LCg.news_but N' keep2 off')
  · subst hI; exact ⟨_, Heap.get?_push_size _ rfl, rfl, rfl⟩
  · rw [← hI]; exact Nat.ne_of_lt (Heap.lt_size (N p hp).1)
end
end Mine
end

section
open PySem PySem.W PyProof.Rows
set_option Elab.async false
namespace Mine
theorem sum_bits {B : Nat} : ∀ {ns : List Int}, (∀ x ∈ ns, Builtin.Int.intBits x ≤ B) → Builtin.Int.intBits ns.sum ≤ B + ns.length
  | [], _ => by
    have : Builtin.Int.intBits 0 ≤ 0 := by decide
    exact Nat.le_trans this (Nat.zero_le _)
  | a :: l, h => by
    rw [List.sum_cons, List.length_cons]
    have h1 := sum_bits (ns := l) fun x hx => h x (.tail _ hx)
    have h2 := intBits_add_le (h a (.head _)) h1
    omega
theorem unit_ok {ns : List Int} {un : Int} (hun : (1 + if ns.sum < 0 then -ns.sum else ns.sum) = un) (hl : ns.length ≤ 63) (h : PyData.layable0 (.list (ns.map .int)) = true) : 0 < un ∧ Builtin.Int.intBits un < 4000000 := by
  refine ⟨by rw [← hun]; split <;> omega, ?_⟩
  have h1 := sum_bits fun x hx => intBits_le_of_item hx h
  have h2 : Builtin.Int.intBits (if ns.sum < 0 then -ns.sum else ns.sum) ≤ 1048576 + ns.length := by
    split
    · exact intBits_neg_le h1
    · exact h1
  have h3 := intBits_add_le (x := 1) (m := 1) (by decide) h2
  rw [hun] at h3
  omega
def side (x : Int) : Int × Int := (1 + x.fmod 12, 1 + (x.fdiv 12).fmod 12)
def fix3 (l3 l2 : Addr) : Addr → Int × Int := fun a => if a = l3 then (7, 5) else if a = l2 then (3, 8) else (5, 5)
theorem side_ok (x : Int) : (1 ≤ (side x).1 ∧ (side x).1 ≤ 12) ∧ 1 ≤ (side x).2 ∧ (side x).2 ≤ 12 := by
  unfold side
  dsimp only
  rw [Int.fmod_eq_emod_of_nonneg _ (by decide), Int.fmod_eq_emod_of_nonneg _ (by decide)]
  omega
def zsOf (n4 : List Int) : List (Int × Int) := (7, 5) :: (3, 8) :: (5, 5) :: n4.map side
theorem zs_ok {n4 : List Int} : ∀ z ∈ zsOf n4, (1 ≤ z.1 ∧ z.1 ≤ 12) ∧ 1 ≤ z.2 ∧ z.2 ≤ 12 := by
  intro z hz
  unfold zsOf at hz
  simp only [List.mem_cons, List.mem_map] at hz
  rcases hz with rfl | rfl | rfl | ⟨x, _, rfl⟩
  · decide
  · decide
  · decide
  · exact side_ok x
def er (z : Int × Int) : List Int := erun z.1.toNat z.2.toNat
def sc (un : Int) (z : Int × Int) : Int × Int := (un * z.1, un * z.2)
theorem er_sc {un : Int} (hu : 0 < un) {z : Int × Int} (h1 : 0 ≤ z.1) (h2 : 0 ≤ z.2) : (er (sc un z)).length = (er z).length := by
  unfold er sc
  dsimp only
  rw [Int.toNat_mul (Int.le_of_lt hu) h1, Int.toNat_mul (Int.le_of_lt hu) h2, erun_scale _ (by omega), List.length_map]
theorem er_len {un : Int} (hu : 0 < un) {z : Int × Int} (h : (1 ≤ z.1 ∧ z.1 ≤ 12) ∧ 1 ≤ z.2 ∧ z.2 ≤ 12) : (er (sc un z)).length ≤ 12 := by
  rw [er_sc hu (by omega) (by omega)]
  exact erun_len12 _ (List.mem_range.mpr (by omega)) _ (List.mem_range.mpr (by omega))
theorem flat_len {un : Int} (hu : 0 < un) : ∀ {zs : List (Int × Int)}, (∀ z ∈ zs, (1 ≤ z.1 ∧ z.1 ≤ 12) ∧ 1 ≤ z.2 ∧ z.2 ≤ 12) → ((zs.map (sc un)).flatMap er).length ≤ 12 * zs.length
  | [], _ => by simp
  | a :: l, h => by
    rw [List.map_cons, List.flatMap_cons, List.length_append, List.length_cons]
    have h1 := er_len hu (h a (.head _))
    have h2 := flat_len hu (zs := l) fun z hz => h z (.tail _ hz)
    omega
theorem tot_len {un : Int} (hu : 0 < un) {n4 : List Int} (h4 : n4.length ≤ 4) : (((zsOf n4).map (sc un)).flatMap er).length < 64 := by
  unfold zsOf
  simp only [List.map_cons, List.flatMap_cons, List.length_append]
  have h1 : (er (sc un (7, 5))).length = 5 := by rw [er_sc hu (by decide) (by decide)]; decide +kernel
  have h2 : (er (sc un (3, 8))).length = 5 := by rw [er_sc hu (by decide) (by decide)]; decide +kernel
  have h3 : (er (sc un (5, 5))).length = 1 := by rw [er_sc hu (by decide) (by decide)]; decide +kernel
  have h5 := flat_len hu (zs := n4.map side) fun z hz => zs_ok z (by unfold zsOf; exact .tail _ (.tail _ (.tail _ hz)))
  rw [List.length_map] at h5
  omega
theorem flat_pre {un : Int} (hu : 0 < un) {n4 : List Int} (h4 : n4.length ≤ 4) (i : Nat) : ((((zsOf n4).take i).map (sc un)).flatMap er).length ≤ 84 := by
  have h := flat_len hu (zs := (zsOf n4).take i) fun z hz => zs_ok z (List.mem_of_mem_take hz)
  have h2 : ((zsOf n4).take i).length ≤ 7 := by
    rw [List.length_take]
    have : (zsOf n4).length = n4.length + 3 := by simp [zsOf]
    omega
  omega
theorem sc_nat {un : Int} (hu : 0 < un) {z : Int × Int} (h : (1 ≤ z.1 ∧ z.1 ≤ 12) ∧ 1 ≤ z.2 ∧ z.2 ≤ 12) : (sc un z).1 = ((un.toNat * z.1.toNat : Nat) : Int) ∧ (sc un z).2 = ((un.toNat * z.2.toNat : Nat) : Int) := by
  unfold sc
  dsimp only
  have h1 : ((un.toNat : Nat) : Int) = un := Int.toNat_of_nonneg (by omega)
  have h2 : ((z.1.toNat : Nat) : Int) = z.1 := Int.toNat_of_nonneg (by omega)
  have h3 : ((z.2.toNat : Nat) : Int) = z.2 := Int.toNat_of_nonneg (by omega)
  rw [Int.natCast_mul, Int.natCast_mul, h1, h2, h3]
  exact ⟨rfl, rfl⟩
theorem sc_ok {un : Int} (hu : 0 < un) {z : Int × Int} (h : (1 ≤ z.1 ∧ z.1 ≤ 12) ∧ 1 ≤ z.2 ∧ z.2 ≤ 12) : 0 < (sc un z).1 ∧ 0 < (sc un z).2 ∧ (sc un z).1 < 13 * un ∧ (sc un z).2 < 13 * un := by
  unfold sc
  dsimp only
  have a1 : 0 < un * z.1 := Int.mul_pos hu (by omega)
  have a2 : 0 < un * z.2 := Int.mul_pos hu (by omega)
  have b1 : un * z.1 ≤ un * 12 := Int.mul_le_mul_of_nonneg_left (by omega) (by omega)
  have b2 : un * z.2 ≤ un * 12 := Int.mul_le_mul_of_nonneg_left (by omega) (by omega)
  omega
theorem er_flat {v v' : Addr → Int × Int} : ∀ {l : List Addr}, (∀ r ∈ l, v' r = v r) → (l.flatMap fun r => erun (v' r).1.toNat (v' r).2.toNat) = (l.map v).flatMap er
  | [], _ => rfl
  | a :: l, h => by
    rw [List.flatMap_cons, List.map_cons, List.flatMap_cons, h a (.head _), er_flat fun r hr => h r (.tail _ hr)]
    rfl
theorem TabSt.tab {q : Str} {ln cl : Nat} {o : Obj} {r : List (Addr × Obj)} (h : TabSt q ln cl o r) : ∃ ps, o = tabObj ps := by
  rcases h with h | ⟨c, oc, vs, t, h, _⟩
  · exact ⟨_, h⟩
  · exact ⟨_, h⟩
theorem lt_name3 {a b c T : Addr} {l : List (Addr × Obj)} (h : a < T ∧ b < T ∧ c < T ∧ AllLt T l) : ∃ T', T' = T ∧ ∀ p ∈ l, p.1 < T' := ⟨T, rfl, allLt_get h.2.2.2⟩
theorem lt_name {a T : Addr} {l : List (Addr × Obj)} (h : a < T ∧ AllLt T l) : ∃ T', T' = T ∧ a < T' := ⟨T, rfl, h.1⟩
structure LawS where
  vq : List Value
  e : Nat
  t65 : Obj
  t72 : Obj
  ext : List (Addr × Obj)
structure LawP (rest : List (Addr × Obj)) (T0 : Addr) (tl : List Int) (c : LawS) : Prop where
  isI : IntsAre c.vq tl
  ta : TabSt q1 75 4 c.t65 (c.ext ++ rest)
  tb : TabSt q2 90 4 c.t72 (c.ext ++ rest)
  off : ∀ q ∈ c.ext, 72 < q.1 ∧ q.1 ≠ T0 ∧ ∀ p ∈ rest, p.1 < q.1
/-- two lists in falling order that hold the same -/
theorem fall_eq {a b : List Int} (h : a.Perm b) (ha : a.Pairwise (· ≥ ·)) (hb : b.Pairwise (· ≥ ·)) : a = b :=
  List.Perm.eq_of_pairwise (fun x y _ _ h1 h2 => Int.le_antisymm h2 h1) ha hb h
end Mine
end

section
open PySem PySem.W PyProof.Rows PySem.Calls
set_option Elab.async false
set_option maxRecDepth 100000
set_option maxHeartbeats 1000000
namespace Mine
theorem calmLaw : True := by
  w_top off
  (try walk1)
  all_goals trivial
local macro_rules | `(tactic| k_all) => `(tactic| assumption)
local macro_rules | `(tactic| walk_at "call ref") => `(tactic| (refine Stop.out ?_))
local macro_rules | `(tactic| walk_at "eval ListComp") => `(tactic| (refine Stop.out ?_))
local macro_rules | `(tactic| walk_at "exec Assign cons ListComp") => `(tactic| (refine Stop.out ?_))
local macro_rules | `(tactic| walk_at "call builtin:list.extend") => `(tactic| (refine Stop.out ?_))
local macro_rules | `(tactic| walk_at "compareOp Eq ref ref") => `(tactic| (refine Stop.out ?_))
local macro_rules | `(tactic| walk_at "CompSrc") => `(tactic| (refine Stop.out ?_))
local macro_rules | `(tactic| walk_at "eval Name") => `(tactic| (k_here; k_dflt (refine' nameX_F ?N ?c ?m ?d ?_ ?a ?b; (case a => rfl); (case b => rfl); (case N => with_reducible assumption); (case c => rfl); (case m => with_reducible assumption); (case d => with_reducible assumption); k_whole)))
local macro_rules | `(tactic| walk_at "eval Name") => `(tactic| (k_here; k_dflt (refine' nameX_C ?N ?c ?m ?d ?_ ?a ?b; (case a => rfl); (case b => rfl); (case N => with_reducible assumption); (case c => rfl); (case m => with_reducible assumption); (case d => with_reducible assumption); k_whole)))
local macro_rules | `(tactic| walk_at "binaryOp Mult int int") => `(tactic| (k_here; k_dflt (refine' mul_to ?k1 ?k2 ?_; (case k1 => with_reducible assumption); (case k2 => with_reducible assumption); k_whole)))
local macro_rules | `(tactic| walk_at "binaryOp Add ref ref") => `(tactic| (refine Stop.out ?_))
theorem law_holds : PySem.Challenge.rw_op0091_01.Holds := Mine.hd (by
  k_go0
  (all_goals try k_fold)
  k_steps
  refine ⟨?_⟩
  k_dflt (refine LCg.ListComp_U (F₀ := by k_asm) (by rfl) (by decide) (by rfl) (by decide) (by rfl) ?_)
  k_steps
  refine ⟨?_⟩
  rename List Int => ns
  rename_i hA tkA tA uA tkB hB oU dU l3 hh4 lt3 l2 hh3 lt2 l1 hh2 lt1 lb hh1 ltb D1 ws hh F1 N1 hI hC hL ltD
  generalize hun : (1 + if ns.sum < 0 then -ns.sum else ns.sum) = un at dU
  have hunok := unit_ok hun (by omega) (by assumption)
  have hlw := (IntsAre.areOf hI).length
  have hl4 : (ns.take 4).length ≤ 4 := by rw [List.length_take]; omega
  generalize hns4 : ns.take 4 = n4 at hI hC hL hlw hl4
  k_dflt (refine LCg.CompSrc.ledger (k := 0) rfl F1 N1 (.head _) ?hsz ?_)
  case hsz => rw [List.size_toArray]; exact Nat.le_trans (hlw ▸ hl4) (Nat.le_of_ble_eq_true rfl)
  generalize hbase : [(D1, listOf ws.toArray 0), (lb, listOf #[.ref l3, .ref l2, .ref l1] 0), (l1, listOf #[Value.int 5 (tk + 1 + 1 + 1 + 1), Value.int 5 (tk + 1 + 1 + 1 + 1 + 1)] 0), (l2, listOf #[Value.int 3 (tk + 1 + 1), Value.int 8 (tk + 1 + 1 + 1)] 0),
      (l3, W.listOf #[Value.int 7 tk, Value.int 5 (tk + 1)] 0), (_, oU), (72, tabObj #[]), (65, tabObj #[])] = base at N1
  have hD1 : (D1, listOf ws.toArray 0) ∈ base := by rw [← hbase]; exact .head _
  have hleB : ∀ p ∈ base, p.1 ≤ D1 := by
    intro p hp
    rw [← hbase] at hp
    simp only [List.mem_cons, List.not_mem_nil, or_false] at hp
    obtain ⟨a1, a2, a3, a4, a5, a6, a7⟩ := ltD
    rcases hp with rfl | rfl | rfl | rfl | rfl | rfl | rfl | rfl
    · exact Nat.le_refl _
    all_goals exact Nat.le_of_lt (by assumption)
  intro g
  k_dflt (refine restU (σ := CmpS) (fun i c => c.rs.length = i ∧ (∀ r ∈ c.rs, IsBd (c.ext ++ base) c.v r) ∧ c.rs.map c.v = (n4.take i).map side ∧ (∀ a, a ≤ D1 → c.v a = fix3 l3 l2 a)) (fun c => c.rs.map Value.ref) (fun c => c.ext ++ base) ?hS ?hg ?hfin _ 0 ⟨[], fix3 l3 l2, []⟩ (Nat.zero_add _) ?h0)
  case hS => intro i c _; exact .inr ⟨_, List.mem_append.mpr (.inr hD1), rfl, _, rfl⟩
  case h0 => exact ⟨rfl, fun _ h => (nomatch h), rfl, fun _ _ => rfl⟩
  case hg =>
    rintro i ⟨rs, v, ext⟩ hi ⟨i1, i2, i3, i4⟩ val I oI C oC D m2 h5 tk5 E5 hv hC hx F5 N5 off5
    dsimp only at i1 i2 i3 i4 N5 off5
    simp only [List.getElem?_toArray] at hv
    rw [List.size_toArray] at hi
    have hi2 : i < n4.length := hlw ▸ hi
    obtain ⟨t, hgt⟩ := hI.get i n4[i] (by simp [hi2])
    rw [hv] at hgt
    cases hgt
    have hx9 : n4[i]? = some n4[i] := by simp [hi2]
    generalize n4[i] = x9 at hx hx9
    k_steps
    rename_i l hl F6 N6 ltl
    have ltE : ∀ p ∈ ext ++ base, p.1 < l := allLt_get ltl.2.2.2
    refine MEnd.mk' ⟨rs ++ [l], vup v l (side x9), (l, listOf #[.int (side x9).1 (tk5 + 1 + 1 + 1), .int (side x9).2 (tk5 + 1 + 1 + 1 + 1 + 1 + 1 + 1 + 1 + 1)] 0) :: ext⟩ F6 ?nN ?nO ?nY ?nI
    case nN =>
      intro p hp
      refine N6 p ?_
      simp only [List.mem_append, List.mem_cons, List.cons_append, List.nil_append] at hp ⊢
      rcases hp with h | h | h | h | h | h
      · exact .inr (.inl h)
      · exact .inr (.inr (.inl h))
      · exact .inr (.inr (.inr (.inl h)))
      · exact .inl h
      · exact .inr (.inr (.inr (.inr (.inl h))))
      · exact .inr (.inr (.inr (.inr (.inr h))))
    case nO =>
      refine ⟨⟨?_, ?_, ?_⟩, off5⟩
      · exact (Nat.ne_of_lt ltl.1).symm
      · exact (Nat.ne_of_lt ltl.2.1).symm
      · exact (Nat.ne_of_lt ltl.2.2.1).symm
    case nY => simp
    case nI =>
      refine ⟨by simp [i1], ?_, ?_, ?_⟩
      · intro r' hr'
        rcases List.mem_append.mp hr' with h | h
        · exact (i2 r' h).vup (fun p hp => .tail _ hp) ((i2 r' h).lt ltE)
        · rw [List.mem_singleton.mp h]
          refine ⟨tk5 + 1 + 1 + 1, tk5 + 1 + 1 + 1 + 1 + 1 + 1 + 1 + 1 + 1, 0, ?_⟩
          dsimp only
          rw [vup_self]
          exact .head _
      · dsimp only
        rw [List.map_append, List.take_add_one, hx9, List.map_append, ← i3]
        congr 1
        · refine List.map_congr_left fun r' h => vup_ne ((i2 r' h).lt ltE)
        · simp [vup_self]
      · intro a ha
        dsimp only
        rw [vup_ne (Nat.ne_of_lt (Nat.lt_of_le_of_lt ha (ltE (D1, _) (List.mem_append.mpr (.inr hD1)))))]
        exact i4 a ha
  case hfin =>
    rintro ⟨rs, v, ext⟩ ⟨i1, i2, i3, i4⟩
    dsimp only at i1 i2 i3 i4 ⊢
    clear i1
    k_steps
    refine ⟨?_⟩
    rename Fr _ _ _ _ => F8
    rename News _ _ _ _ => N8
    have hbs1 : (rs.map Value.ref).length ≤ 4 := by
      have h := congrArg List.length i3
      rw [List.length_map, List.length_map, List.length_take] at h
      rw [List.length_map]; omega
    k_dflt (refine kmk_add_lit (zs := (l3 :: l2 :: l1 :: rs).map Value.ref) F8 N8 (PySem.IsL.isList (n := 0) (N8 (lb, listOf #[.ref l3, .ref l2, .ref l1] 0) (.tail _ (List.mem_append.mpr (.inr ?hmb)))).1) (PySem.IsL.isList (n := (rs.map Value.ref).length) (N8 _ (.head _)).1) ?hz1 ?_ ?hz2)
    case hmb => rw [← hbase]; exact .tail _ (.head _)
    case hz1 => simp
    case hz2 =>
      have h : (#[Value.ref l3, Value.ref l2, Value.ref l1].toList.length + (rs.map Value.ref).toArray.toList.length) ≤ 7 := by
        show 3 + _ ≤ 7
        rw [List.toList_toArray]; omega
      exact Nat.le_trans h (Nat.le_of_ble_eq_true rfl)
    intro B0 hB0 F9 N9 lt9
    clear F8 N8
    generalize hbs : l3 :: l2 :: l1 :: rs = bs at N9
    have hbl : bs.length ≤ 7 := by
      rw [← hbs]
      rw [List.length_map] at hbs1
      simp only [List.length_cons]; omega
    have e3 : v l3 = (7, 5) := by
      rw [i4 l3 (hleB (l3, W.listOf #[Value.int 7 tk, Value.int 5 (tk + 1)] 0) (by rw [← hbase]; exact .tail _ (.tail _ (.tail _ (.tail _ (.head _))))))]
      unfold fix3
      rw [if_pos rfl]
    have e2 : v l2 = (3, 8) := by
      rw [i4 l2 (hleB (l2, listOf #[Value.int 3 (tk + 1 + 1), Value.int 8 (tk + 1 + 1 + 1)] 0) (by rw [← hbase]; exact .tail _ (.tail _ (.tail _ (.head _)))))]
      unfold fix3
      rw [if_neg (Nat.ne_of_lt lt2.1).symm, if_pos rfl]
    have e1 : v l1 = (5, 5) := by
      rw [i4 l1 (hleB (l1, listOf #[Value.int 5 (tk + 1 + 1 + 1 + 1), Value.int 5 (tk + 1 + 1 + 1 + 1 + 1)] 0) (by rw [← hbase]; exact .tail _ (.tail _ (.head _))))]
      unfold fix3
      rw [if_neg (Nat.ne_of_lt lt1.2.1).symm, if_neg (Nat.ne_of_lt lt1.1).symm]
    have hbsv : bs.map v = zsOf n4 := by
      rw [← hbs]
      have hn : n4.take ws.toArray.size = n4 := List.take_of_length_le (by rw [List.size_toArray, hlw]; exact Nat.le_refl _)
      rw [hn] at i3
      rw [List.map_cons, List.map_cons, List.map_cons, i3, e1, e2, e3]
      rfl
    have hbsI : ∀ r ∈ bs, IsBd (ext ++ base) v r := by
      intro r hr
      rw [← hbs] at hr
      rcases List.mem_cons.mp hr with rfl | hr
      · refine ⟨tk, tk + 1, 0, List.mem_append.mpr (.inr ?_)⟩
        rw [e3, ← hbase]
        exact .tail _ (.tail _ (.tail _ (.tail _ (.head _))))
      rcases List.mem_cons.mp hr with rfl | hr
      · refine ⟨tk + 1 + 1, tk + 1 + 1 + 1, 0, List.mem_append.mpr (.inr ?_)⟩
        rw [e2, ← hbase]
        exact .tail _ (.tail _ (.tail _ (.head _)))
      rcases List.mem_cons.mp hr with rfl | hr
      · refine ⟨tk + 1 + 1 + 1 + 1, tk + 1 + 1 + 1 + 1 + 1, 0, List.mem_append.mpr (.inr ?_)⟩
        rw [e1, ← hbase]
        exact .tail _ (.tail _ (.head _))
      · exact i2 r hr
    k_steps
    refine ⟨?_⟩
    k_dflt (refine assign_comp2 (F₀ := by k_asm) (by with_unfolding_all rfl) (by with_unfolding_all rfl) (by decide) (by rfl) (by decide) (by rfl) (by rfl) (by decide) (by rfl) (by rfl) ?_)
    k_steps
    rename Fr _ _ _ _ => F11
    rename News _ _ _ _ => N11
    have N12 : News _ _ _ ((B0, heapOf bs 0) :: (ext ++ base)) := fun p hp => N11 p (by
      rcases List.mem_cons.mp hp with rfl | hp
      · exact .head _
      · exact .tail _ (.tail _ hp))
    clear N11
    generalize hbase2 : (B0, heapOf bs 0) :: (ext ++ base) = base2 at N12
    have hsub2 : ∀ p ∈ ext ++ base, p ∈ base2 := fun p hp => by rw [← hbase2]; exact .tail _ hp
    have hB0 : (B0, heapOf bs 0) ∈ base2 := by rw [← hbase2]; exact .head _
    have hcell : ∃ cc, (cc, oU) ∈ base ∧ cc = _ := ⟨_, by rw [← hbase]; exact .tail _ (.tail _ (.tail _ (.tail _ (.tail _ (.head _))))), rfl⟩
    refine ⟨B0, (bs.map Value.ref).toArray, CmpS, fun i c => c.rs.length = i ∧ (∀ r ∈ c.rs, IsBd (c.ext ++ base2) c.v r) ∧ c.rs.map c.v = (bs.take i).map (fun r => sc un (v r)), fun c => c.rs.map Value.ref, fun c => c.ext ++ base2, ⟨[], v, []⟩, rfl, rfl, F11, N12, ?hz3, ⟨rfl, fun _ h => (nomatch h), rfl⟩, rfl, ?hi3, ?ht3, ?hd3⟩
    case hz3 => rw [List.size_toArray, List.length_map]; exact Nat.le_trans hbl (Nat.le_of_ble_eq_true rfl)
    case hi3 => rintro i c ⟨h, _⟩; exact ⟨by dsimp only; rw [List.length_map]; exact h, 0, List.mem_append.mpr (.inr hB0)⟩
    case ht3 =>
      rintro i ⟨rs2, v2, ext2⟩ hi ⟨j1, j2, j3⟩
      dsimp only at j1 j2 j3 ⊢
      rw [List.size_toArray, List.length_map] at hi
      have hv2 : bs[i]? = some (bs.getD i 0) := by simp [List.getD, hi]
      have hr := hbsI _ (getD_mem hi)
      generalize bs.getD i 0 = r at hr hv2
      obtain ⟨t1, t2, nr, hrm⟩ := hr
      refine ⟨r, .int (v r).1 t1, .int (v r).2 t2, nr, by simp [hv2], List.mem_append.mpr (.inr (hsub2 _ hrm)), ?_⟩
      intro I oI C oC D m2 h5 tk5 E5 hC hx hx2 F5 N5 off5
      obtain ⟨⟨q1, q2⟩, q3, q4⟩ := zs_ok (v r) (by rw [← hbsv]; exact List.mem_map_of_mem (List.mem_of_getElem? hv2))
      have hm1 : IntMulOk un (v r).1 := .of_right (intBits_le_64 (by omega) (by omega))
      have hm2 : IntMulOk un (v r).2 := .of_right (intBits_le_64 (by omega) (by omega))
      obtain ⟨z1, hz1⟩ : ∃ z, un * (v r).1 = z := ⟨_, rfl⟩
      obtain ⟨z2, hz2⟩ : ∃ z, un * (v r).2 = z := ⟨_, rfl⟩
      obtain ⟨cc, hcc, hce⟩ := hcell
      subst hce
      have hcm : (_, oU) ∈ (I, oI) :: (C, oC) :: (D, LCg.lst (rs2.map Value.ref)) :: (ext2 ++ base2) := .tail _ (.tail _ (.tail _ (List.mem_append.mpr (.inr (hsub2 _ (List.mem_append.mpr (.inr hcc)))))))
      k_steps
      rename_i l hl F6 N6 ltl
      have ltE : ∀ p ∈ ext2 ++ base2, p.1 < l := allLt_get ltl.2.2.2
      subst hz1 hz2
      refine MEnd.mk' ⟨rs2 ++ [l], vup v2 l (sc un (v r)), (l, listOf #[.int (sc un (v r)).1 tk5, .int (sc un (v r)).2 (tk5 + 1)] 0) :: ext2⟩ F6 ?nN ?nO ?nY ?nI
      case nN =>
        intro p hp
        refine N6 p ?_
        simp only [List.mem_append, List.mem_cons, List.cons_append, List.nil_append] at hp ⊢
        rcases hp with h | h | h | h | h | h
        · exact .inr (.inl h)
        · exact .inr (.inr (.inl h))
        · exact .inr (.inr (.inr (.inl h)))
        · exact .inl h
        · exact .inr (.inr (.inr (.inr (.inl h))))
        · exact .inr (.inr (.inr (.inr (.inr h))))
      case nO =>
        refine ⟨⟨?_, ?_, ?_⟩, off5⟩
        · exact (Nat.ne_of_lt ltl.1).symm
        · exact (Nat.ne_of_lt ltl.2.1).symm
        · exact (Nat.ne_of_lt ltl.2.2.1).symm
      case nY => simp
      case nI =>
        refine ⟨by simp [j1], ?_, ?_⟩
        · intro r' hr'
          rcases List.mem_append.mp hr' with h | h
          · exact (j2 r' h).vup (fun p hp => .tail _ hp) ((j2 r' h).lt ltE)
          · rw [List.mem_singleton.mp h]
            refine ⟨tk5, tk5 + 1, 0, ?_⟩
            dsimp only
            rw [vup_self]
            exact .head _
        · dsimp only
          rw [List.map_append, List.take_add_one, hv2, List.map_append, ← j3]
          congr 1
          · refine List.map_congr_left fun r' h => vup_ne ((j2 r' h).lt ltE)
          · simp [vup_self]
    case hd3 =>
      rintro ⟨rs2, v2, ext2⟩ ⟨j1, j2, j3⟩ B1 h6 tk6 F13 N13 off13
      dsimp only at j1 j2 j3 N13 off13
      clear F11 N12
      have hv3 : rs2.map v2 = (zsOf n4).map (sc un) := by
        rw [j3, ← hbsv, List.map_map, List.take_of_length_le (by rw [List.size_toArray, List.length_map]; exact Nat.le_refl _)]
        rfl
      have h65m : (65, tabObj #[]) ∈ ext2 ++ base2 := List.mem_append.mpr (.inr (hsub2 _ (List.mem_append.mpr (.inr (by rw [← hbase]; exact .tail _ (.tail _ (.tail _ (.tail _ (.tail _ (.tail _ (.tail _ (.head _))))))))))))
      have h72m : (72, tabObj #[]) ∈ ext2 ++ base2 := List.mem_append.mpr (.inr (hsub2 _ (List.mem_append.mpr (.inr (by rw [← hbase]; exact .tail _ (.tail _ (.tail _ (.tail _ (.tail _ (.tail _ (.head _)))))))))))
      obtain ⟨cc, hcc, hce⟩ := hcell
      have hccm : (cc, oU) ∈ ext2 ++ base2 := List.mem_append.mpr (.inr (hsub2 _ (List.mem_append.mpr (.inr hcc))))
      have hnoT : ∀ a o1 o2, (a, o1) ∈ ext2 ++ base2 → (a, o2) ∈ ext2 ++ base2 → o1 = o2 := fun a o1 o2 h1 h2 => by
        have e1 := (N13 _ (.tail _ h1)).1
        have e2 := (N13 _ (.tail _ h2)).1
        rw [e1] at e2
        exact Option.some.inj e2
      have hcc65 : cc ≠ 65 ∧ cc ≠ 72 := by
        constructor
        · intro e9
          rw [e9] at hccm
          have h := hnoT _ _ _ hccm h65m
          rw [h] at dU
          cases dU
        · intro e9
          rw [e9] at hccm
          have h := hnoT _ _ _ hccm h72m
          rw [h] at dU
          cases dU
      have hB1 : ∀ p ∈ ext2 ++ base2, p.1 ≠ B1 := off1_get off13
      generalize hbdl : (ext2 ++ base2).filter (fun p => decide (p.1 ≠ 65 ∧ p.1 ≠ 72)) = bdl
      have hbdS : ∀ p ∈ bdl, p ∈ ext2 ++ base2 ∧ p.1 ≠ 65 ∧ p.1 ≠ 72 := fun p hp => by
        rw [← hbdl] at hp
        have h := List.mem_filter.mp hp
        exact ⟨h.1, of_decide_eq_true h.2⟩
      have hbdI : ∀ r ∈ rs2, IsBd bdl v2 r := fun r hr => by
        obtain ⟨t1, t2, n, hm⟩ := j2 r hr
        refine ⟨t1, t2, n, ?_⟩
        rw [← hbdl]
        refine List.mem_filter.mpr ⟨hm, decide_eq_true ⟨?_, ?_⟩⟩
        · rintro rfl
          have h := hnoT _ _ _ hm h65m
          cases h
        · rintro rfl
          have h := hnoT _ _ _ hm h72m
          cases h
      have hccd : (cc, oU) ∈ bdl := by
        rw [← hbdl]
        exact List.mem_filter.mpr ⟨hccm, decide_eq_true hcc65⟩
      k_steps
      rename News _ _ _ _ => N14
      rename Fr _ _ _ _ => F14
      rename (B1 < _ ∧ AllLt _ _) => ltT
      obtain ⟨T0, hT0, _⟩ := lt_name ltT
      subst hT0
      have ltT2 : ∀ p ∈ ext2 ++ base2, p.1 < T0 := allLt_get ltT.2
      have hrest : ∀ p ∈ (B1, heapOf rs2 (rs2.map Value.ref).length) :: bdl, p.1 ≠ 65 ∧ p.1 ≠ 72 ∧ p.1 < T0 := fun p hp => by
        rcases List.mem_cons.mp hp with rfl | hp
        · exact ⟨(hB1 _ h65m).symm, (hB1 _ h72m).symm, ltT.1⟩
        · exact ⟨(hbdS p hp).2.1, (hbdS p hp).2.2, ltT2 p (hbdS p hp).1⟩
      have N15 : News _ _ _ ((T0, listOf #[] 0) :: (65, tabObj #[]) :: (72, tabObj #[]) :: ([] ++ (B1, heapOf rs2 (rs2.map Value.ref).length) :: bdl)) := fun p hp => N14 p (by
        rcases List.mem_cons.mp hp with rfl | hp
        · exact .head _
        rcases List.mem_cons.mp hp with rfl | hp
        · exact .tail _ (.tail _ h65m)
        rcases List.mem_cons.mp hp with rfl | hp
        · exact .tail _ (.tail _ h72m)
        rcases List.mem_cons.mp hp with rfl | hp
        · exact .tail _ (.head _)
        · exact .tail _ (.tail _ (hbdS p hp).1))
      clear N14
      generalize hrestE : (B1, heapOf rs2 (rs2.map Value.ref).length) :: bdl = rest at hrest N15
      have hB1m : (B1, heapOf rs2 (rs2.map Value.ref).length) ∈ rest := by rw [← hrestE]; exact .head _
      have hbdR : ∀ p ∈ bdl, p ∈ rest := fun p hp => by rw [← hrestE]; exact .tail _ hp
      k_dflt (refine for2 F14 ?_)
      k_steps
      rename Fr _ _ _ _ => F16
      rename News _ _ _ _ => N16
      refine ⟨B1, (rs2.map Value.ref).toArray, LawS, fun c => (T0, listOf c.vq.toArray c.e) :: (65, c.t65) :: (72, c.t72) :: (c.ext ++ rest), fun c => [(Str.ofString "told", .ref T0), (Str.ofString "boards", .ref B1)],
        fun i c => LawP rest T0 ((((zsOf n4).take i).map (sc un)).flatMap er) c, ⟨[], 0, tabObj #[], tabObj #[], []⟩, _, rfl, rfl, F16, N16, ?hk4, ⟨.nil, .inl rfl, .inl rfl, fun _ h => nomatch h⟩, ?hb4, ?hi4, ?ht4, ?hd4⟩
      case hk4 =>
        intro p hp
        simp only [List.mem_cons, List.not_mem_nil, or_false] at hp
        rcases hp with rfl | rfl <;> with_unfolding_all rfl
      case hb4 => intro i c _; exact ⟨_, .tail _ (.tail _ (.tail _ (List.mem_append.mpr (.inr hB1m))))⟩
      case hi4 =>
        intro i hi
        rw [List.size_toArray, List.length_map] at hi
        exact ⟨rs2[i], by simp [hi]⟩
      case ht4 =>
        rintro i ⟨vq, e, s65, s72, ext3⟩ u h7 tk7 I oI t hi hti ⟨p1, p2, p3, p4⟩ F17 N17 off17 ⟨j, hdI⟩
        dsimp only at p1 p2 p3 p4 F17 N17 off17
        rw [List.size_toArray, List.length_map] at hi
        have ht2 : rs2[i]? = some t := by simpa [List.getElem?_map] using hti
        have htm : t ∈ rs2 := List.mem_of_getElem? ht2
        obtain ⟨b1, b2, nb, hbm⟩ := hbdI t htm
        have hz : ((zsOf n4).map (sc un))[i]? = some (v2 t) := by rw [← hv3, List.getElem?_map, ht2]; rfl
        obtain ⟨z, hz1, hz2⟩ : ∃ z, (zsOf n4)[i]? = some z ∧ sc un z = v2 t := by
          rw [List.getElem?_map] at hz
          simpa using hz
        have hzo := zs_ok z (List.mem_of_getElem? hz1)
        have hzn := sc_nat hunok.1 hzo
        rw [← hz2, hzn.1, hzn.2] at hbm
        have her : er (sc un z) = erun (un.toNat * z.1.toNat) (un.toNat * z.2.toNat) := by
          unfold er
          rw [hzn.1, hzn.2, Int.toNat_natCast, Int.toNat_natCast]
        have hpre : (((zsOf n4).take (i + 1)).map (sc un)).flatMap er = (((zsOf n4).take i).map (sc un)).flatMap er ++ erun (un.toNat * z.1.toNat) (un.toNat * z.2.toNat) := by
          rw [List.take_add_one, hz1, ← her]
          simp
        have hflat := flat_pre hunok.1 hl4 i
        have hrl : (erun (un.toNat * z.1.toNat) (un.toNat * z.2.toNat)).length ≤ 12 := her ▸ er_len hunok.1 hzo
        generalize hx0 : un.toNat * z.1.toNat = x0 at hbm hpre hrl
        generalize hb0 : un.toNat * z.2.toNat = b0 at hbm hpre hrl
        clear her hzn hz
        have N18 : News _ _ _ ((t, listOf #[.int (x0 : Int) b1, .int (b0 : Int) b2] nb) :: (I, oI) :: (T0, listOf vq.toArray e) :: (65, s65) :: (72, s72) :: (ext3 ++ rest)) := fun p hp => N17 p (by
          rcases List.mem_cons.mp hp with rfl | hp
          · exact .tail _ (.tail _ (.tail _ (.tail _ (List.mem_append.mpr (.inr (hbdR _ hbm))))))
          · exact hp)
        clear N17
        k_steps
        refine ⟨?_⟩
        rename Fr _ _ _ _ => F19
        rename News _ _ _ _ => N19
        have N20 : News _ _ _ ((65, s65) :: (72, s72) :: ((T0, listOf vq.toArray e) :: (I, oI) :: (ext3 ++ rest))) := fun p hp => N19 p (by
          rcases List.mem_cons.mp hp with rfl | hp
          · exact .tail _ (.tail _ (.tail _ (.head _)))
          rcases List.mem_cons.mp hp with rfl | hp
          · exact .tail _ (.tail _ (.tail _ (.tail _ (.head _))))
          rcases List.mem_cons.mp hp with rfl | hp
          · exact .tail _ (.tail _ (.head _))
          rcases List.mem_cons.mp hp with rfl | hp
          · exact .tail _ (.head _)
          · exact .tail _ (.tail _ (.tail _ (.tail _ (.tail _ hp)))))
        clear N19
        have hu0 : 0 < un.toNat := by have := hunok.1; omega
        have hub : Builtin.Int.intBits ((un.toNat : Nat) : Int) < 4000000 := by rw [Int.toNat_of_nonneg (by have := hunok.1; omega)]; exact hunok.2
        have offT : T0 ≠ I := off17 (T0, listOf vq.toArray e) (.head _)
        have off65 : 65 ≠ I := off17 (65, s65) (.tail _ (.head _))
        have off72 : 72 ≠ I := off17 (72, s72) (.tail _ (.tail _ (.head _)))
        have offE : ∀ p ∈ ext3 ++ rest, p.1 ≠ I := fun p hp => off17 p (.tail _ (.tail _ (.tail _ hp)))
        k_dflt (refine' run_c (u₀ := un.toNat) (i₀ := z.1.toNat) (j₀ := z.2.toNat) (x₀ := x0) (b₀ := b0) ?k1 F19 ?k3 N20 ?k5 ?k3b ?k5b ?k6 ?k7 ?k8 ?k65 ?k72 ?kt1 ?kt2 hu0 hub hx0.symm hb0.symm ?ki0 ?ki12 ?kj12 ?_)
        case k1 => k_asm
        case k3 => k_asm
        case k5 => k_asm
        case k3b => k_asm
        case k5b => k_asm
        case k6 => rfl
        case k7 => ktr_room
        case k8 => ktr_units
        case k65 =>
          intro p hp
          rcases List.mem_cons.mp hp with rfl | hp
          · exact (Nat.ne_of_lt (ltT2 _ h65m)).symm
          rcases List.mem_cons.mp hp with rfl | hp
          · exact off65.symm
          rcases List.mem_append.mp hp with hp | hp
          · exact (Nat.ne_of_lt (Nat.lt_trans (by decide : (65 : Nat) < 72) (p4 p hp).1)).symm
          · exact (hrest p hp).1
        case k72 =>
          intro p hp
          rcases List.mem_cons.mp hp with rfl | hp
          · exact (Nat.ne_of_lt (ltT2 _ h72m)).symm
          rcases List.mem_cons.mp hp with rfl | hp
          · exact off72.symm
          rcases List.mem_append.mp hp with hp | hp
          · exact (Nat.ne_of_lt (p4 p hp).1).symm
          · exact (hrest p hp).2.1
        case kt1 => exact p2.mono fun p hp => .tail _ (.tail _ hp)
        case kt2 => exact p3.mono fun p hp => .tail _ (.tail _ hp)
        case ki0 => omega
        case ki12 => omega
        case kj12 => omega
        intro sq vq2 e2 r65 r72 ext4 h8 tk8 F21 N21 hta htb hnew hnsq hI2
        have hv1 : vq.length ≤ 1000 := by
          have h := (IntsAre.areOf p1).length
          omega
        have hv2 : vq2.length ≤ 1000 := by
          have h := (IntsAre.areOf hI2).length
          omega
        have N22 : News _ _ _ ((T0, listOf vq.toArray e) :: (sq, listOf vq2.toArray e2) :: (I, oI) :: (65, r65) :: (72, r72) :: (ext4 ++ (ext3 ++ rest))) := fun p hp => N21 p (by
          rcases List.mem_cons.mp hp with rfl | hp
          · exact .tail _ (.tail _ (.tail _ (List.mem_append.mpr (.inr (.head _)))))
          rcases List.mem_cons.mp hp with rfl | hp
          · exact .head _
          rcases List.mem_cons.mp hp with rfl | hp
          · exact .tail _ (.tail _ (.tail _ (List.mem_append.mpr (.inr (.tail _ (.head _))))))
          rcases List.mem_cons.mp hp with rfl | hp
          · exact .tail _ (.head _)
          rcases List.mem_cons.mp hp with rfl | hp
          · exact .tail _ (.tail _ (.head _))
          rcases List.mem_append.mp hp with hp | hp
          · exact .tail _ (.tail _ (.tail _ (List.mem_append.mpr (.inl hp))))
          · exact .tail _ (.tail _ (.tail _ (List.mem_append.mpr (.inr (.tail _ (.tail _ hp)))))))
        have hneT : ∀ p ∈ (sq, listOf vq2.toArray e2) :: (I, oI) :: (65, r65) :: (72, r72) :: (ext4 ++ (ext3 ++ rest)), p.1 ≠ T0 := fun p hp => by
          rcases List.mem_cons.mp hp with rfl | hp
          · exact (Nat.ne_of_lt ((hnew (sq, r65) (.head _)).2 (T0, listOf vq.toArray e) (.head _))).symm
          rcases List.mem_cons.mp hp with rfl | hp
          · exact offT.symm
          rcases List.mem_cons.mp hp with rfl | hp
          · exact Nat.ne_of_lt (ltT2 (65, tabObj #[]) h65m)
          rcases List.mem_cons.mp hp with rfl | hp
          · exact Nat.ne_of_lt (ltT2 (72, tabObj #[]) h72m)
          rcases List.mem_append.mp hp with hp | hp
          · exact (Nat.ne_of_lt ((hnew p (.tail _ hp)).2 (T0, listOf vq.toArray e) (.head _))).symm
          rcases List.mem_append.mp hp with hp | hp
          · exact (p4 p hp).2.1
          · exact Nat.ne_of_lt (hrest p hp).2.2
        clear N21
        k_steps
        refine ⟨?_⟩
        refine hp_extend (by assumption) N22 (.head _) hneT hv1 hv2 fun h9 e9 F23 N23 => ?_
        clear N22 F21
        k_steps
        rename Fr _ _ _ _ => F24
        rename News _ _ _ _ => N24
        refine FEnd.mk ⟨vq ++ vq2, e9, r65, r72, ext4 ++ ext3⟩ F24 N24 ?hn5 ?ho5 ?hk5 ⟨⟨?hi5, ?ha5, ?hb5, ?hf5⟩, ?hg5⟩
        case hn5 =>
          intro p hp
          rcases List.mem_cons.mp hp with rfl | hp
          · exact .head _
          rcases List.mem_cons.mp hp with rfl | hp
          · exact .tail _ (.tail _ (.tail _ (.head _)))
          rcases List.mem_cons.mp hp with rfl | hp
          · exact .tail _ (.tail _ (.tail _ (.tail _ (.head _))))
          · exact .tail _ (.tail _ (.tail _ (.tail _ (.tail _ (by rw [← List.append_assoc]; exact hp)))))
        case ho5 =>
          intro p hp
          rw [List.mem_singleton.mp hp]
          exact .tail _ (.tail _ (.head _))
        case hk5 =>
          intro p hp
          simp only [List.mem_cons, List.not_mem_nil, or_false] at hp
          rcases hp with rfl | rfl <;> with_unfolding_all rfl
        case hi5 => rw [hpre]; exact ints_app p1 hI2
        case ha5 =>
          refine hta.keep fun c oc vs t hm h1 h2 => ?_
          rw [List.append_assoc]
          rcases List.mem_append.mp hm with hm | hm
          · exact List.mem_append.mpr (.inl hm)
          rcases List.mem_cons.mp hm with hm | hm
          · cases hm; cases h1
          rcases List.mem_cons.mp hm with hm | hm
          · cases hm; rw [hdI] at h1; cases h1; cases h2
          · exact List.mem_append.mpr (.inr hm)
        case hb5 =>
          refine htb.keep fun c oc vs t hm h1 h2 => ?_
          rw [List.append_assoc]
          rcases List.mem_append.mp hm with hm | hm
          · exact List.mem_append.mpr (.inl hm)
          rcases List.mem_cons.mp hm with hm | hm
          · cases hm; cases h1
          rcases List.mem_cons.mp hm with hm | hm
          · cases hm; rw [hdI] at h1; cases h1; cases h2
          · exact List.mem_append.mpr (.inr hm)
        case hf5 =>
          intro p hp
          rcases List.mem_append.mp hp with hp | hp
          · have h1 := hnew p (.tail _ hp)
            exact ⟨h1.1, (Nat.ne_of_lt (h1.2 (T0, listOf vq.toArray e) (.head _))).symm, fun p' hp' => h1.2 p' (.tail _ (.tail _ (List.mem_append.mpr (.inr hp'))))⟩
          · exact p4 p hp
        case hg5 =>
          intro p hp
          rcases List.mem_cons.mp hp with rfl | hp
          · exact offT
          rcases List.mem_cons.mp hp with rfl | hp
          · exact off65
          rcases List.mem_cons.mp hp with rfl | hp
          · exact off72
          rw [List.append_assoc] at hp
          rcases List.mem_append.mp hp with hp | hp
          · exact (Nat.ne_of_lt ((hnew p (.tail _ hp)).2 (I, oI) (.tail _ (.head _)))).symm
          · exact offE p hp
      case hd4 =>
        rintro ⟨vq, e, s65, s72, ext3⟩ u h7 tk7 ⟨p1, p2, p3, p4⟩ F17 N17
        dsimp only at p1 p2 p3 p4 F17 N17
        have hrl : rs2.length = (zsOf n4).length := by
          have h := congrArg List.length hv3
          rwa [List.length_map, List.length_map] at h
        have hz7 : (zsOf n4).length ≤ 7 := by
          have : (zsOf n4).length = n4.length + 3 := by simp [zsOf]
          omega
        rw [List.take_of_length_le (by rw [List.size_toArray, List.length_map, hrl]; exact Nat.le_refl _)] at p1
        obtain ⟨M, hM⟩ : ∃ M, 13 * un = M := ⟨_, rfl⟩
        have hMm : IntMulOk 13 un := .of_left (by decide)
        subst hce
        have hcm : (_, oU) ∈ (T0, listOf vq.toArray e) :: (65, s65) :: (72, s72) :: (ext3 ++ rest) := .tail _ (.tail _ (.tail _ (List.mem_append.mpr (.inr (hbdR _ hccd)))))
        k_steps
        refine ⟨?_⟩
        rename Fr _ _ _ _ => F18
        rename News _ _ _ _ => N18
        rename (T0 < _ ∧ 65 < _ ∧ 72 < _ ∧ AllLt _ _) => ltM
        obtain ⟨mk, hmkE, hmk⟩ := lt_name3 ltM
        subst hmkE
        have hbdM : ∀ r ∈ rs2, r ≠ mk := fun r hr => (hbdI r hr).lt fun p hp => hmk p (List.mem_append.mpr (.inr (hbdR p hp)))
        have hvM : ∀ r ∈ rs2, vup v2 mk (M, 0) r = v2 r := fun r hr => vup_ne (hbdM r hr)
        have htot := er_flat hvM
        rw [hv3] at htot
        have htl := tot_len hunok.1 hl4
        k_dflt (refine' cut_c (bo := B1) (mk := mk) (bs := rs2) (v₀ := vup v2 mk (M, 0)) (M := M) (tot := ((zsOf n4).map (sc un)).flatMap er) ?k1 F18 ?k3 N18 ?k5 ?k3b ?k5b ?k6 ?k7 ?k8 ?kbo ?kbs ?kmk ?kM ?kpos ?klen (.of_eq htot) (by omega) ?_)
        case k1 => k_asm
        case k3 => k_asm
        case k5 => k_asm
        case k3b => k_asm
        case k5b => k_asm
        case k6 => rfl
        case k7 => ktr_room
        case k8 => ktr_units
        case kbo => exact .tail _ (.tail _ (.tail _ (.tail _ (List.mem_append.mpr (.inr hB1m)))))
        case kbs => exact fun r hr => (hbdI r hr).vup (fun p hp => .tail _ (.tail _ (.tail _ (.tail _ (List.mem_append.mpr (.inr (hbdR p hp))))))) (hbdM r hr)
        case kmk => exact ⟨tk7 + 1, tk7 + 1 + 1, 0, by rw [vup_self]; exact .head _⟩
        case kM => rw [vup_self]
        case kpos =>
          intro r hr
          rw [hvM r hr, ← hM]
          have h : v2 r ∈ (zsOf n4).map (sc un) := by rw [← hv3]; exact List.mem_map_of_mem hr
          obtain ⟨z, hz, he⟩ := List.mem_map.mp h
          rw [← he]
          exact sc_ok hunok.1 (zs_ok z hz)
        case klen => omega
        intro sq vs5 e5 sqs h8 tk8 F19 N19 hI5 hperm hfall
        clear N18 F18
        k_steps
        refine ⟨?_⟩
        rename Fr _ _ _ _ => F20
        rename News _ _ _ _ => N20
        rename List.Pairwise _ _ => hfall2
        rename List.Perm _ _ => hperm2
        rename IntsAre _ _ => hI6
        obtain ⟨ps65, rfl⟩ := p2.tab
        obtain ⟨ps72, rfl⟩ := p3.tab
        have hEq := fall_eq (hperm.trans hperm2.symm) hfall hfall2
        k_dflt (refine ke_eq_ints (PySem.IsL.isList (n := e5) (N20 (sq, listOf vs5.toArray e5) (.tail _ (.head _))).1) (PySem.IsL.isList (N20 _ (.head _)).1) hI5 hI6 ?hu9 ?_)
        case hu9 => ktr_units
        rw [decide_eq_true hEq]
        k_steps)
end Mine
end

theorem PySem.Challenge.cw_op0091_01_holds : PySem.Challenge.rw_op0091_01.Holds :=
  Mine.law_holds
