import PyProof.Rows.All
import Wide.All
import OpenK.AllK
import Wide.FinOn
import Lean
import PySem.Challenge.RW_fe0353_01
open PySem PySem.W PyProof.Rows
set_option Elab.async false
set_option pp.deepTerms false
set_option pp.proofs false
set_option pp.maxSteps 1500
set_option linter.all false
set_option linter.unusedVariables false
set_option linter.unusedSimpArgs false
namespace Mine
set_option maxRecDepth 100000 in
set_option maxHeartbeats 8000000 in
open_top hd for PySem.Challenge.rw_fe0353_01
section
/-- the contract of a def of the text: called with `vs` from any frame of the text's, it ends in a value told by `R`, with what it made on the ledger -/
def Con (lv : Nat) (f : Addr) (need : List (Addr × Obj) → Prop) (vs : List Value) (R : Value → List (Addr × Obj) → Prop) : Prop :=
  ∀ (w : World) (mean : ExcName → Option Value) (mg mb : Str → Option Value)
    (dp un : Nat) (gd : Option (List Code)) (cn : Str) (cs : Scope) (a : Addr) (ccd : Value) (cl : List (Str × Addr)) (outer : List Env) (A₀ : Around)
    (base h₀ : Heap) (L : Addr) (m : Str → Option Value) (news : List (Addr × Obj)) (s : Shared) (Q E : Value → Shared → Prop),
    Below A₀ base outer h₀ → Fr h₀ L s.heap m → (hd.heap_39 w.params).In h₀ → News h₀ L s.heap news →
    Top hd.view_39 (looseW hd.view_39 [Str.ofString "_law_edges"]) mean mg mb h₀ → cs.kind = .function → need news →
    dp + lv < recursionLimit → un + (8 * lv + 80) < cLine →
    (∀ v tl h' tk', R v tl → Fr h₀ L h' m → News h₀ L h' (tl ++ news) → Q v { s with heap := h', toks := tk' }) →
    wpAny (model PySem.Challenge.rw_fe0353_01.row.prog w) (ktrTop dp un gd cn cs L a ccd cl outer) (PySem.call (.ref f) vs) Q E s

def anyNews (_ : List (Addr × Obj)) : Prop := True
def pFirst (y : Int) : Int := 365 * (y - 1) + (y - 1) / 4 - (y - 1) / 100 + (y - 1) / 400
def IntV (x : Int) (v : Value) (tl : List (Addr × Obj)) : Prop := tl = [] ∧ ∃ t, v = .int x t
theorem IntV.mk {x y : Int} {t : Tok} (h : y = x) : IntV x (.int y t) [] := ⟨rfl, t, by rw [h]⟩

theorem gen_toks {α : Type} {M : Model} {A : Around} {t : Sem α} {Q : α → Shared → Prop} {E : Value → Shared → Prop} {h : Heap} {g : Array GenState} {d : Drawn} {X : Nat} {o : OsState}
    (H : ∀ tk, wpAny M A t Q E ⟨h, g, d, tk, o⟩) : wpAny M A t Q E ⟨h, g, d, X, o⟩ := H X

theorem con_use {lv : Nat} {f : Addr} {need : List (Addr × Obj) → Prop} {vs : List Value} {R : Value → List (Addr × Obj) → Prop} (C : Con lv f need vs R)
    {w : World} {mean : ExcName → Option Value} {mg mb : Str → Option Value}
    {dp un : Nat} {gd : Option (List Code)} {cn : Str} {cs : Scope} {a : Addr} {ccd : Value} {cl : List (Str × Addr)} {outer : List Env} {A₀ : Around}
    {base h₀ : Heap} {L : Addr} {m : Str → Option Value} {news : List (Addr × Obj)} {s : Shared} {Q E : Value → Shared → Prop}
    (B : Below A₀ base outer h₀) (F : Fr h₀ L s.heap m) (X : (hd.heap_39 w.params).In h₀) (N : News h₀ L s.heap news)
    (T : Top hd.view_39 (looseW hd.view_39 [Str.ofString "_law_edges"]) mean mg mb h₀) (hk : cs.kind = .function) (hn : need news)
    (hd : dp + lv < recursionLimit) (hu : un + (8 * lv + 80) < cLine)
    (ret : ∀ v tl h' tk', R v tl → Fr h₀ L h' m → News h₀ L h' (tl ++ news) → Q v { s with heap := h', toks := tk' }) :
    wpAny (model PySem.Challenge.rw_fe0353_01.row.prog w) (ktrTop dp un gd cn cs L a ccd cl outer) (PySem.call (.ref f) vs) Q E s :=
  C _ _ _ _ _ _ _ _ _ _ _ _ _ _ _ _ _ _ _ _ _ _ B F X N T hk hn hd hu ret

inductive SubL : List (Addr × Obj) → List (Addr × Obj) → Prop
  | refl (l) : SubL l l
  | skip {q l l'} : SubL l l' → SubL l (q :: l')
  | cons {q l l'} : q ∈ l' → SubL l l' → SubL (q :: l) l'
theorem mem_head {q : Addr × Obj} {l : List (Addr × Obj)} : q ∈ q :: l := .head _
theorem mem_tail {q p : Addr × Obj} {l : List (Addr × Obj)} (h : q ∈ l) : q ∈ p :: l := .tail _ h
theorem SubL.sub {l l' : List (Addr × Obj)} (h : SubL l l') : ∀ p ∈ l, p ∈ l' := by
  induction h with
  | refl => exact fun _ h => h
  | skip _ ih => exact fun p hp => .tail _ (ih p hp)
  | cons h1 _ ih =>
    intro p hp
    rcases List.mem_cons.mp hp with rfl | hp
    · exact h1
    · exact ih p hp
theorem news_drop {h₀ h : Heap} {L : Addr} {l l' : List (Addr × Obj)} (N : News h₀ L h l') (S : SubL l l') : News h₀ L h l := fun p hp => N p (S.sub p hp)
def pLong (y m : Int) : Int := if m = 2 ∧ y % 4 = 0 ∧ (y % 100 ≠ 0 ∨ y % 400 = 0) then 29 else [31, 28, 31, 30, 31, 30, 31, 31, 30, 31, 30, 31].getD (m - 1).toNat 0

/-- the days of the months ahead of m -/
def pCum (y m : Int) : Int := (List.map (fun k => pLong y k) (rangeKs 1 (m - 1).toNat)).sum
def pCount (y m d : Int) : Int := pFirst y + pCum y m + d - 1
abbrev pOk (y m d : Int) : Prop := 1900 ≤ y ∧ y ≤ 9999 ∧ 1 ≤ m ∧ m ≤ 12 ∧ 1 ≤ d ∧ d ≤ pLong y m
def pDays (y m d : Int) : Int := if pOk y m d then pCount y m d else -1
theorem pDays_yes {y m d : Int} (h : pOk y m d) : pFirst y + (List.map (fun k => pLong y k) (rangeKs 1 (m - 1).toNat)).sum + d - 1 = pDays y m d := by
  rw [pDays, if_pos h]; rfl
theorem pDays_no {y m d : Int} (h : ¬ pOk y m d) : -1 = pDays y m d := by
  rw [pDays, if_neg h]

section
variable {M : Model} {A : Around} {E : Value → Shared → Prop} {Q : Unit → Shared → Prop} {s : Shared} {env : Env} {x : Str} {T : Tok}
theorem store_int {n : Int} (H : ∀ t, wpAny M A (storeName env x (.int n t)) Q E s) : wpAny M A (storeName env x (.int n T)) Q E s := H T
theorem store_float {n : UInt64} (H : ∀ t, wpAny M A (storeName env x (.float n t)) Q E s) : wpAny M A (storeName env x (.float n T)) Q E s := H T
theorem store_str {n : Str} (H : ∀ t, wpAny M A (storeName env x (.str n t)) Q E s) : wpAny M A (storeName env x (.str n T)) Q E s := H T
end
/-- a proposition that the walk lets lie -/
def Hold (p : Prop) : Prop := p
/-- a tree that the walk is to leave -/
def Stuck (p : Prop) : Prop := p
theorem Stuck.mk {p : Prop} (h : Stuck p) : p := h
theorem Hold.mk {p : Prop} (h : p) : Hold p := h

/-- the names hold these values -/
def Has (m : Str → Option Value) : List (Str × Value) → Prop
  | [] => True
  | p :: r => m p.1 = some p.2 ∧ Has m r
theorem Has.all {m : Str → Option Value} : ∀ {l : List (Str × Value)}, Has m l → ∀ p ∈ l, m p.1 = some p.2
  | _ :: _, h, _, .head _ => h.1
  | _ :: _, h, _, .tail _ hp => Has.all h.2 _ hp
theorem Has.nil {m : Str → Option Value} : Has m [] := trivial
theorem Has.cons {m : Str → Option Value} {n : Str} {v : Value} {r : List (Str × Value)} (h1 : m n = some v) (h2 : Has m r) : Has m ((n, v) :: r) := ⟨h1, h2⟩
/-- where a statement of a frame ends: the named locals hold what `ps` says, of a state that `P` speaks of; the rest is forgotten -/
def CutEnd {σ : Type} (h₀ : Heap) (L : Addr) (s : Shared) (ps : σ → List (Str × Value)) (Led : σ → List (Addr × Obj)) (P : σ → Prop) (s₂ : Shared) : Prop :=
  ∃ (c : σ) (h' : Heap) (tk : Nat) (m' : Str → Option Value), s₂ = { s with heap := h', toks := tk } ∧ Fr h₀ L h' m' ∧ News h₀ L h' (Led c) ∧ (∀ p ∈ ps c, m' p.1 = some p.2) ∧ P c
theorem cut_end {σ : Type} {h₀ : Heap} {L : Addr} {s : Shared} {ps : σ → List (Str × Value)} {Led : σ → List (Addr × Obj)} {P : σ → Prop} {h' : Heap} {tk : Nat} {m' : Str → Option Value} {g : Array GenState} {d : Drawn} {o : OsState} (c : σ)
    (F : Fr h₀ L h' m') (N : News h₀ L h' (Led c)) (hk : Has m' (ps c)) (hp : P c) (eg : g = s.gens) (ed : d = s.drawn) (eo : o = s.os) : CutEnd h₀ L s ps Led P ⟨h', g, d, tk, o⟩ :=
  ⟨c, h', tk, m', by subst eg ed eo; rfl, F, N, hk.all, hp⟩
def CutPost {σ : Type} (h₀ : Heap) (L : Addr) (s : Shared) (ps : σ → List (Str × Value)) (Led : σ → List (Addr × Obj)) (P : σ → Prop) (Q : Flow → Shared → Prop) (f : Flow) (s₂ : Shared) : Prop :=
  match f with
  | .next => CutEnd h₀ L s ps Led P s₂
  | f => Q f s₂
theorem kst_forget {h₀ : Heap} {L : Addr} {h : Heap} {m₁ : Str → Option Value} {ps : List (Str × Value)} (h1 : ∀ p ∈ ps, m₁ p.1 = some p.2) (F : Fr h₀ L h m₁) : Fr h₀ L h (kstB m₁ ps) := by
  have em : kstB m₁ ps = m₁ := by
    funext y
    exact kstB_eq h1 fun _ => rfl
  rw [em]
  exact F
section
variable {prog : Program} {w : World} {A : Around} {E : Value → Shared → Prop} {Q : Flow → Shared → Prop} {s : Shared} {env : Env} {h₀ : Heap} {L : Addr}
theorem my_cut {σ : Type} {st : Stmt} {rest : List Stmt} (ps : σ → List (Str × Value)) (Led : σ → List (Addr × Obj)) (P : σ → Prop)
    (h1 : wpAny (model prog w) A (exec st env) (CutPost h₀ L s ps Led P Q) E s)
    (h2 : ∀ c u h tk, P c → Fr h₀ L h (kstB u (ps c)) → News h₀ L h (Led c) → wpAny (model prog w) A (execs rest env) Q E { s with heap := h, toks := tk }) :
    wpAny (model prog w) A (execs (st :: rest) env) Q E s := by
  refine wpAny_execs_cons (wpAny_mono h1 (fun f s₂ p => ?_) fun _ _ x => x)
  cases f with
  | next =>
    obtain ⟨c, h', tk, m', rfl, F, N, hk, hp⟩ := p
    exact h2 c m' h' tk hp (kst_forget hk F) N
  | brk => exact p
  | cont => exact p
  | ret v => exact p

def WhEnd {σ : Type} (h₀ : Heap) (L : Addr) (s : Shared) (ps : σ → List (Str × Value)) (news : List (Addr × Obj)) (P : σ → Prop) (μ : σ → Nat) (c : σ) (s₂ : Shared) : Prop :=
  ∃ (c' : σ) (h' : Heap) (tk : Nat) (m' : Str → Option Value), s₂ = { s with heap := h', toks := tk } ∧ Fr h₀ L h' m' ∧ News h₀ L h' news ∧ (∀ p ∈ ps c', m' p.1 = some p.2) ∧ P c' ∧ μ c' < μ c
theorem wh_end {σ : Type} {h₀ : Heap} {L : Addr} {s : Shared} {ps : σ → List (Str × Value)} {news : List (Addr × Obj)} {P : σ → Prop} {μ : σ → Nat} {c : σ} {h' : Heap} {tk : Nat} {m' : Str → Option Value} {g : Array GenState} {d : Drawn} {o : OsState} (c' : σ)
    (F : Fr h₀ L h' m') (N : News h₀ L h' news) (hk : Has m' (ps c')) (hp : P c') (hm : μ c' < μ c) (eg : g = s.gens) (ed : d = s.drawn) (eo : o = s.os) : WhEnd h₀ L s ps news P μ c ⟨h', g, d, tk, o⟩ :=
  ⟨c', h', tk, m', by subst eg ed eo; rfl, F, N, hk.all, hp, hm⟩
def WhPost {σ : Type} (h₀ : Heap) (L : Addr) (s : Shared) (ps : σ → List (Str × Value)) (news : List (Addr × Obj)) (P : σ → Prop) (μ : σ → Nat) (Q : Flow → Shared → Prop) (c : σ) (f : Flow) (s₂ : Shared) : Prop :=
  match f with
  | .ret v => Q (.ret v) s₂
  | .brk => Q .next s₂
  | _ => WhEnd h₀ L s ps news P μ c s₂
theorem my_while {σ : Type} {test : Expr} {body : List Stmt} {pos : Pos} {m₀ : Str → Option Value} {news : List (Addr × Obj)} (ps : σ → List (Str × Value)) (P : σ → Prop) (μ : σ → Nat) (c₀ : σ)
    (F : Fr h₀ L s.heap m₀) (N : News h₀ L s.heap news) (hk : Has m₀ (ps c₀)) (hp : Hold (P c₀))
    (turn : ∀ (c : σ) (u : Str → Option Value) h tk, P c → Fr h₀ L h (kstB u (ps c)) → News h₀ L h news →
      wpAny (model prog w) A (isTrue test env (eval test env)) (fun b s₂ =>
        if b = true then wpAny (model prog w) A (execs body env) (WhPost h₀ L s ps news P μ Q c) (fun _ _ => False) s₂ else Q .next s₂) (fun _ _ => False) { s with heap := h, toks := tk }) :
    wpAny (model prog w) A (exec (.While test body [] pos) env) Q E s := by
  refine wpAny_mono (Q := Q) (E := fun _ _ => False) ?_ (fun _ _ x => x) fun _ _ x => x.elim
  refine While_inv2 (fun n m nx => ∃ c : σ, nx = news ∧ μ c = n ∧ (∀ p ∈ ps c, m p.1 = some p.2) ∧ P c) F N ⟨c₀, rfl, rfl, hk.all, hp⟩ ?_ PassesOwn.never
  rintro n m₁ nx h tk F₁ N₁ ⟨c, hnx, hsz, h1, hp'⟩
  rw [hnx] at N₁
  rw [← hsz]
  refine wpAny_mono (turn c m₁ h tk hp' (kst_forget h1 F₁) N₁) (fun b s₂ p => ?_) fun _ _ x => x
  cases b with
  | false => simpa using p
  | true =>
    simp only [if_true] at p ⊢
    refine wpAny_mono p (fun f s₃ q => ?_) fun _ _ x => x
    cases f with
    | ret v => exact q
    | brk => exact q
    | next =>
      obtain ⟨c', h', tk', m', rfl, F', N', hk9, hp9, hm9⟩ := q
      exact ⟨h', tk', m', news, μ c', rfl, F', N', hm9, c', rfl, rfl, hk9, hp9⟩
    | cont =>
      obtain ⟨c', h', tk', m', rfl, F', N', hk9, hp9, hm9⟩ := q
      exact ⟨h', tk', m', news, μ c', rfl, F', N', hm9, c', rfl, rfl, hk9, hp9⟩
end

theorem rangeKs_step (n : Nat) : rangeKs 1 (n + 1) = rangeKs 1 n ++ [1 + (n : Int)] := by
  unfold rangeKs
  simp [List.range_succ]
theorem pCum_one (y : Int) : pCum y 1 = 0 := by
  unfold pCum rangeKs
  simp
theorem pCum_step (y m : Int) (h : 1 ≤ m) : pCum y (m + 1) = pCum y m + pLong y m := by
  unfold pCum
  have e : (m + 1 - 1).toNat = (m - 1).toNat + 1 := by omega
  have e2 : 1 + (((m - 1).toNat : Nat) : Int) = m := by omega
  rw [e, rangeKs_step, List.map_append, List.sum_append, List.map_cons, List.map_nil, List.sum_cons, List.sum_nil, Int.add_zero, e2]
theorem pLong_pos (y m : Int) (h1 : 1 ≤ m) (h2 : m ≤ 12) : 28 ≤ pLong y m ∧ pLong y m ≤ 31 := by
  unfold pLong
  split
  · decide
  · have : m = 1 ∨ m = 2 ∨ m = 3 ∨ m = 4 ∨ m = 5 ∨ m = 6 ∨ m = 7 ∨ m = 8 ∨ m = 9 ∨ m = 10 ∨ m = 11 ∨ m = 12 := by omega
    rcases this with rfl | rfl | rfl | rfl | rfl | rfl | rfl | rfl | rfl | rfl | rfl | rfl <;> decide
theorem first_step (y : Int) : pFirst (y + 1) = pFirst y + (if y % 4 = 0 ∧ (y % 100 ≠ 0 ∨ y % 400 = 0) then 366 else 365) := by
  unfold pFirst
  split <;> omega
/-- the lengths that do not hang on the year -/
theorem pLong_tab' (y m : Int) (h : m ≠ 2) : pLong y m = [31, 28, 31, 30, 31, 30, 31, 31, 30, 31, 30, 31].getD (m - 1).toNat 0 := by
  rw [pLong, if_neg]
  exact fun x => h x.1
theorem pLong_feb (y : Int) : pLong y 2 = if y % 4 = 0 ∧ (y % 100 ≠ 0 ∨ y % 400 = 0) then 29 else 28 := by
  unfold pLong
  split
  · rename_i h; rw [if_pos h.2]
  · rename_i h; rw [if_neg (fun x => h ⟨rfl, x⟩)]; decide
theorem pCum_all (y : Int) : pCum y 2 = 31 ∧ pCum y 3 = 31 + pLong y 2 ∧ pCum y 4 = 62 + pLong y 2 ∧ pCum y 5 = 92 + pLong y 2 ∧ pCum y 6 = 123 + pLong y 2 ∧ pCum y 7 = 153 + pLong y 2 ∧ pCum y 8 = 184 + pLong y 2 ∧
    pCum y 9 = 215 + pLong y 2 ∧ pCum y 10 = 245 + pLong y 2 ∧ pCum y 11 = 276 + pLong y 2 ∧ pCum y 12 = 306 + pLong y 2 ∧ pCum y 13 = 337 + pLong y 2 := by
  have s1 := pCum_step y 1 (by decide)
  have s2 := pCum_step y 2 (by decide)
  have s3 := pCum_step y 3 (by decide)
  have s4 := pCum_step y 4 (by decide)
  have s5 := pCum_step y 5 (by decide)
  have s6 := pCum_step y 6 (by decide)
  have s7 := pCum_step y 7 (by decide)
  have s8 := pCum_step y 8 (by decide)
  have s9 := pCum_step y 9 (by decide)
  have s10 := pCum_step y 10 (by decide)
  have s11 := pCum_step y 11 (by decide)
  have s12 := pCum_step y 12 (by decide)
  have l1 : pLong y 1 = 31 := pLong_tab' y 1 (by decide)
  have l3 : pLong y 3 = 31 := pLong_tab' y 3 (by decide)
  have l4 : pLong y 4 = 30 := pLong_tab' y 4 (by decide)
  have l5 : pLong y 5 = 31 := pLong_tab' y 5 (by decide)
  have l6 : pLong y 6 = 30 := pLong_tab' y 6 (by decide)
  have l7 : pLong y 7 = 31 := pLong_tab' y 7 (by decide)
  have l8 : pLong y 8 = 31 := pLong_tab' y 8 (by decide)
  have l9 : pLong y 9 = 30 := pLong_tab' y 9 (by decide)
  have l10 : pLong y 10 = 31 := pLong_tab' y 10 (by decide)
  have l11 : pLong y 11 = 30 := pLong_tab' y 11 (by decide)
  have l12 : pLong y 12 = 31 := pLong_tab' y 12 (by decide)
  have z := pCum_one y
  simp only [show (1:Int) + 1 = 2 from rfl, show (2:Int) + 1 = 3 from rfl, show (3:Int) + 1 = 4 from rfl, show (4:Int) + 1 = 5 from rfl, show (5:Int) + 1 = 6 from rfl, show (6:Int) + 1 = 7 from rfl, show (7:Int) + 1 = 8 from rfl, show (8:Int) + 1 = 9 from rfl, show (9:Int) + 1 = 10 from rfl, show (10:Int) + 1 = 11 from rfl, show (11:Int) + 1 = 12 from rfl, show (12:Int) + 1 = 13 from rfl] at *
  omega
theorem year_len (y : Int) : pCum y 13 = pFirst (y + 1) - pFirst y := by
  have h := (pCum_all y).2.2.2.2.2.2.2.2.2.2.2
  rw [h, pLong_feb, first_step]
  split <;> omega

def tup3 (x y z : Int) (t1 t2 t3 : Tok) : Obj := { cls := .type "tuple", data := .seq #[.int x t1, .int y t2, .int z t3] }
def tup6 (x y z a b c : Int) (t1 t2 t3 t4 t5 t6 : Tok) : Obj := { cls := .type "tuple", data := .seq #[.int x t1, .int y t2, .int z t3, .int a t4, .int b t5, .int c t6] }
/-- a count's date -/
def DateIs (c y m d : Int) : Prop := 1 ≤ m ∧ m ≤ 12 ∧ 1 ≤ d ∧ d ≤ pLong y m ∧ pCount y m d = c
def DateV (c : Int) (v : Value) (tl : List (Addr × Obj)) : Prop :=
  ∃ (a : Addr) (y m d : Int) (t1 t2 t3 : Tok), v = .ref a ∧ tl = [(a, { cls := .type "tuple", data := .seq #[.int y t1, .int m t2, .int d t3] })] ∧ DateIs c y m d
theorem first_ge {y : Int} (h : 1000 ≤ y) : y < pFirst (y + 1) := by
  unfold pFirst; omega
theorem date_year0 {c : Int} (h : 693000 ≤ c) : pFirst ((c * 400).fdiv 146097) ≤ c ∧ 1000 ≤ (c * 400).fdiv 146097 := by
  rw [Int.fdiv_eq_ediv_of_nonneg _ (by decide)]
  unfold pFirst
  omega
theorem cum_last {y m c : Int} (h1 : 1 ≤ m) (h2 : m ≤ 12) (h3 : c < pFirst (y + 1)) (h4 : pLong y m ≤ c - pFirst y - pCum y m) : m < 12 := by
  by_cases e : m = 12
  · subst e
    have s := pCum_step y 12 (by decide)
    have l := year_len y
    rw [show (12 : Int) + 1 = 13 from rfl] at s
    omega
  · omega

theorem date_end {c y m r : Int} (h : 1 ≤ m ∧ m ≤ 12 ∧ 0 ≤ r ∧ pFirst y ≤ c ∧ c < pFirst (y + 1) ∧ r = c - pFirst y - pCum y m) (h2 : ¬ pLong y m ≤ r) : DateIs c y m (r + 1) := by
  obtain ⟨a, b, d, e, f, g⟩ := h
  refine ⟨a, b, by omega, by omega, ?_⟩
  unfold pCount
  omega

/-- what a reading tells: a word, or six numbers -/
inductive Tel where
  | text (x : Str)
  | date (y m d h i s : Int)
def TelV : Tel → Value → List (Addr × Obj) → Prop
  | .text x, v, tl => tl = [] ∧ ∃ t, v = .str x t
  | .date y m d h i s, v, tl => ∃ (a : Addr) (t1 t2 t3 t4 t5 t6 : Tok), v = .ref a ∧ tl = [(a, { cls := .type "tuple", data := .seq #[.int y t1, .int m t2, .int d t3, .int h t4, .int i t5, .int s t6] })]
def pBase (mode : Int) : Int := if mode = 1 then 695055 else 693593
def pTop (mode : Int) : Int := if mode = 1 then 2957004 else 2958466
def pJd (mode : Int) : Int := if mode = 1 then 2416481 else 2415019
def aReg (n : Int) : Int := ((n * 4 + 274277) / 146097 * 3 / 4 + n + 1363) * 4 + 3
def aMp (n : Int) : Int := aReg n % 1461 / 4 * 535 + 333
def aD (n : Int) : Int := aMp n % 16384 / 535 + 1
def aY (n : Int) : Int := if aMp n / 16384 ≥ 10 then aReg n / 1461 - 4715 else aReg n / 1461 - 4716
def aM (n : Int) : Int := if aMp n / 16384 ≥ 10 then aMp n / 16384 - 9 else aMp n / 16384 + 3
def pRead (whole S mode : Int) : Tel :=
  if whole < 0 then .text "negative" else
  let w := if S = 86400 then whole + 1 else whole
  let s := if S = 86400 then 0 else S
  if w ≥ pTop mode then .text "large"
  else if w = 0 then .date 0 0 0 (s / 3600) (s / 60 % 60) (s % 60)
  else if w < 61 ∧ mode = 0 then .text "ambiguous"
  else .date (aY (w + pJd mode)) (aM (w + pJd mode)) (aD (w + pJd mode)) (s / 3600) (s / 60 % 60) (s % 60)

/-- the contract of a def that the law's own frame alone calls (it catches: the frames' own slots may turn) -/
def ConL (lv : Nat) (f : Addr) (need : List (Addr × Obj) → Prop) (vs : List Value) (R : Value → List (Addr × Obj) → Prop) : Prop :=
  ∀ (w : World) (mean : ExcName → Option Value) (mg mb : Str → Option Value)
    (dp un : Nat) (gd : Option (List Code)) (cn : Str) (cs : Scope) (a : Addr) (ccd : Value) (A₀ : Around)
    (h₀ : Heap) (L : Addr) (m : Str → Option Value) (news : List (Addr × Obj)) (s : Shared) (Q E : Value → Shared → Prop),
    Below A₀ h₀ [] h₀ → Fr h₀ L s.heap m → (hd.heap_39 w.params).In h₀ → News h₀ L s.heap news →
    Top hd.view_39 (looseW hd.view_39 [Str.ofString "_law_edges"]) mean mg mb h₀ → cs.kind = .function → need news →
    dp + lv < recursionLimit → un + (8 * lv + 80) < cLine →
    (∀ v tl h' tk', R v tl → Fr h₀ L h' m → News h₀ L h' (tl ++ news) → Q v { s with heap := h', toks := tk' }) →
    wpAny (model PySem.Challenge.rw_fe0353_01.row.prog w) (ktrTop dp un gd cn cs L a ccd [] []) (PySem.call (.ref f) vs) Q E s
theorem conL_use {lv : Nat} {f : Addr} {need : List (Addr × Obj) → Prop} {vs : List Value} {R : Value → List (Addr × Obj) → Prop} (C : ConL lv f need vs R)
    {w : World} {mean : ExcName → Option Value} {mg mb : Str → Option Value}
    {dp un : Nat} {gd : Option (List Code)} {cn : Str} {cs : Scope} {a : Addr} {ccd : Value} {A₀ : Around}
    {h₀ : Heap} {L : Addr} {m : Str → Option Value} {news : List (Addr × Obj)} {s : Shared} {Q E : Value → Shared → Prop}
    (B : Below A₀ h₀ [] h₀) (F : Fr h₀ L s.heap m) (X : (hd.heap_39 w.params).In h₀) (N : News h₀ L s.heap news)
    (T : Top hd.view_39 (looseW hd.view_39 [Str.ofString "_law_edges"]) mean mg mb h₀) (hk : cs.kind = .function) (hn : need news)
    (hd : dp + lv < recursionLimit) (hu : un + (8 * lv + 80) < cLine)
    (ret : ∀ v tl h' tk', R v tl → Fr h₀ L h' m → News h₀ L h' (tl ++ news) → Q v { s with heap := h', toks := tk' }) :
    wpAny (model PySem.Challenge.rw_fe0353_01.row.prog w) (ktrTop dp un gd cn cs L a ccd [] []) (PySem.call (.ref f) vs) Q E s :=
  C _ _ _ _ _ _ _ _ _ _ _ _ _ _ _ _ _ _ _ B F X N T hk hn hd hu ret
end
section
/-- a year that begins in March -/
def mYear (Y q : Int) : Int := 365 * Y + Y / 4 - Y / 100 + Y / 400 + q
theorem reg_core (Y q : Int) (hY : 0 ≤ Y) (h0 : 0 ≤ q) (h1 : q ≤ 364 ∨ (q = 365 ∧ (Y + 1) % 4 = 0 ∧ ((Y + 1) % 100 ≠ 0 ∨ (Y + 1) % 400 = 0))) :
    aReg (mYear Y q + 1721120) / 1461 = Y + 4716 ∧ aReg (mYear Y q + 1721120) % 1461 / 4 = q := by
  have e : ((mYear Y q + 1721120) * 4 + 274277) / 146097 * 3 / 4 = Y / 100 - Y / 400 + 36 := by
    unfold mYear
    obtain ⟨a, b, r, rfl, hb0, hb1, hr0, hr1⟩ : ∃ a b r : Int, Y = 400 * a + 100 * b + r ∧ 0 ≤ b ∧ b ≤ 3 ∧ 0 ≤ r ∧ r ≤ 99 := ⟨Y / 400, Y % 400 / 100, Y % 100, by omega, by omega, by omega, by omega, by omega⟩
    have e1 : (400 * a + 100 * b + r) / 4 = 100 * a + 25 * b + r / 4 := by omega
    have e2 : (400 * a + 100 * b + r) / 100 = 4 * a + b := by omega
    have e3 : (400 * a + 100 * b + r) / 400 = a := by omega
    have hb : b = 0 ∨ b = 1 ∨ b = 2 ∨ b = 3 := by omega
    rw [e1, e2, e3]
    have hq : q ≤ 364 ∨ (q = 365 ∧ (r < 99 ∨ b = 3)) := by
      rcases h1 with h | ⟨h, h2, h3⟩
      · exact .inl h
      · refine .inr ⟨h, ?_⟩
        omega
    have h4 : 365 * r + r / 4 + q ≤ 36523 ∨ (b = 3 ∧ 365 * r + r / 4 + q = 36524) := by omega
    have h5 : 0 ≤ 365 * r + r / 4 + q := by omega
    generalize hg : 365 * r + r / 4 + q = g at *
    have e4 : (365 * (400 * a + 100 * b + r) + (100 * a + 25 * b + r / 4) - (4 * a + b) + a + q + 1721120) * 4 + 274277 = 146097 * (4 * a + 49 + b) + (4 * g + 4 - b) := by omega
    rw [e4]
    clear e4 hg e1 e2 e3 h1 hq
    rcases hb with rfl | rfl | rfl | rfl <;> omega
  have e2 : aReg (mYear Y q + 1721120) = 1461 * (Y + 4716) + (4 * q + 3 - Y % 4) := by
    unfold aReg
    rw [e]
    unfold mYear
    omega
  rw [e2]
  have h2 : 0 ≤ 4 * q + 3 - Y % 4 ∧ 4 * q + 3 - Y % 4 ≤ 1460 := by omega
  have h3 : (4 * q + 3 - Y % 4) / 4 = q := by omega
  clear e e2 h1
  generalize 4 * q + 3 - Y % 4 = t at *
  have h4 : (1461 * (Y + 4716) + t) % 1461 = t := by omega
  rw [h4]
  exact ⟨by omega, h3⟩
theorem mar_first (y : Int) : pFirst y + pLong y 2 = mYear y 0 - 337 := by
  rw [pLong_feb]
  unfold pFirst mYear
  split <;> omega
/-- the days of the months ahead, from March on -/
def mCum (M : Int) : Int := (979 * M + 16) / 32
set_option maxHeartbeats 4000000 in
theorem march {c y m d : Int} (hy : 1 ≤ y) (h : DateIs c y m d) : ∃ Y M q : Int, 0 ≤ Y ∧ 0 ≤ M ∧ M ≤ 11 ∧ q = mCum M + d - 1 ∧ c = mYear Y q - 306 ∧ 0 ≤ q ∧
    (q ≤ 364 ∨ (q = 365 ∧ (Y + 1) % 4 = 0 ∧ ((Y + 1) % 100 ≠ 0 ∨ (Y + 1) % 400 = 0))) ∧ (535 * q + 333) / 16384 = M ∧ (535 * q + 333) % 16384 / 535 + 1 = d ∧ (if m ≤ 2 then Y = y - 1 ∧ M = m + 9 else Y = y ∧ M = m - 3) := by
  obtain ⟨a, b, d1, d2, rfl⟩ := h
  have hm : m = 1 ∨ m = 2 ∨ m = 3 ∨ m = 4 ∨ m = 5 ∨ m = 6 ∨ m = 7 ∨ m = 8 ∨ m = 9 ∨ m = 10 ∨ m = 11 ∨ m = 12 := by omega
  obtain ⟨s2, s3, s4, s5, s6, s7, s8, s9, s10, s11, s12, s13⟩ := pCum_all y
  have s1 := pCum_one y
  have l1 : pLong y 1 = 31 := pLong_tab' y 1 (by decide)
  have l3 : pLong y 3 = 31 := pLong_tab' y 3 (by decide)
  have l4 : pLong y 4 = 30 := pLong_tab' y 4 (by decide)
  have l5 : pLong y 5 = 31 := pLong_tab' y 5 (by decide)
  have l6 : pLong y 6 = 30 := pLong_tab' y 6 (by decide)
  have l7 : pLong y 7 = 31 := pLong_tab' y 7 (by decide)
  have l8 : pLong y 8 = 31 := pLong_tab' y 8 (by decide)
  have l9 : pLong y 9 = 30 := pLong_tab' y 9 (by decide)
  have l10 : pLong y 10 = 31 := pLong_tab' y 10 (by decide)
  have l11 : pLong y 11 = 30 := pLong_tab' y 11 (by decide)
  have l12 : pLong y 12 = 31 := pLong_tab' y 12 (by decide)
  have lf := pLong_feb y
  have hf := first_step (y - 1)
  have hf' := first_step y
  rcases hm with rfl | rfl | rfl | rfl | rfl | rfl | rfl | rfl | rfl | rfl | rfl | rfl
  · refine ⟨y - 1, 10, mCum 10 + d - 1, by omega, by omega, by omega, rfl, ?_, ?_, ?_, ?_, ?_, by simp⟩ <;> simp only [pCount, mYear, pFirst, mCum] at * <;> omega
  · refine ⟨y - 1, 11, mCum 11 + d - 1, by omega, by omega, by omega, rfl, ?_, ?_, ?_, ?_, ?_, by simp⟩
    · simp only [pCount, mYear, pFirst, mCum] at *; omega
    · simp only [mCum] at *; omega
    · simp only [mCum] at *
      rw [lf] at d2
      split at d2 <;> omega
    · simp only [mCum] at *; rw [lf] at d2; split at d2 <;> omega
    · simp only [mCum] at *; rw [lf] at d2; split at d2 <;> omega
  all_goals (have c0 := mar_first y; clear hf hf' lf)
  · exact ⟨y, 0, mCum 0 + d - 1, by omega, by omega, by omega, rfl, by simp only [pCount, mYear, mCum] at *; omega, by simp only [mCum]; omega, by simp only [mCum]; omega, by simp only [mCum]; omega, by simp only [mCum]; omega, by simp⟩
  · exact ⟨y, 1, mCum 1 + d - 1, by omega, by omega, by omega, rfl, by simp only [pCount, mYear, mCum] at *; omega, by simp only [mCum]; omega, by simp only [mCum]; omega, by simp only [mCum]; omega, by simp only [mCum]; omega, by simp⟩
  · exact ⟨y, 2, mCum 2 + d - 1, by omega, by omega, by omega, rfl, by simp only [pCount, mYear, mCum] at *; omega, by simp only [mCum]; omega, by simp only [mCum]; omega, by simp only [mCum]; omega, by simp only [mCum]; omega, by simp⟩
  · exact ⟨y, 3, mCum 3 + d - 1, by omega, by omega, by omega, rfl, by simp only [pCount, mYear, mCum] at *; omega, by simp only [mCum]; omega, by simp only [mCum]; omega, by simp only [mCum]; omega, by simp only [mCum]; omega, by simp⟩
  · exact ⟨y, 4, mCum 4 + d - 1, by omega, by omega, by omega, rfl, by simp only [pCount, mYear, mCum] at *; omega, by simp only [mCum]; omega, by simp only [mCum]; omega, by simp only [mCum]; omega, by simp only [mCum]; omega, by simp⟩
  · exact ⟨y, 5, mCum 5 + d - 1, by omega, by omega, by omega, rfl, by simp only [pCount, mYear, mCum] at *; omega, by simp only [mCum]; omega, by simp only [mCum]; omega, by simp only [mCum]; omega, by simp only [mCum]; omega, by simp⟩
  · exact ⟨y, 6, mCum 6 + d - 1, by omega, by omega, by omega, rfl, by simp only [pCount, mYear, mCum] at *; omega, by simp only [mCum]; omega, by simp only [mCum]; omega, by simp only [mCum]; omega, by simp only [mCum]; omega, by simp⟩
  · exact ⟨y, 7, mCum 7 + d - 1, by omega, by omega, by omega, rfl, by simp only [pCount, mYear, mCum] at *; omega, by simp only [mCum]; omega, by simp only [mCum]; omega, by simp only [mCum]; omega, by simp only [mCum]; omega, by simp⟩
  · exact ⟨y, 8, mCum 8 + d - 1, by omega, by omega, by omega, rfl, by simp only [pCount, mYear, mCum] at *; omega, by simp only [mCum]; omega, by simp only [mCum]; omega, by simp only [mCum]; omega, by simp only [mCum]; omega, by simp⟩
  · exact ⟨y, 9, mCum 9 + d - 1, by omega, by omega, by omega, rfl, by simp only [pCount, mYear, mCum] at *; omega, by simp only [mCum]; omega, by simp only [mCum]; omega, by simp only [mCum]; omega, by simp only [mCum]; omega, by simp⟩

/-- the text's own reckoning of a count's date is the calendar's -/
theorem alg_eq {c y m d : Int} (hy : 1 ≤ y) (h : DateIs c y m d) : aY (c + 1721426) = y ∧ aM (c + 1721426) = m ∧ aD (c + 1721426) = d := by
  obtain ⟨Y, M, q, hY, hM0, hM1, hq, hc, hq0, hq1, e1, e2, e3⟩ := march hy h
  have hn : c + 1721426 = mYear Y q + 1721120 := by omega
  obtain ⟨r1, r2⟩ := reg_core Y q hY hq0 hq1
  have hmp : aMp (c + 1721426) = 535 * q + 333 := by unfold aMp; rw [hn, r2]; omega
  have hm12 := h.2.1
  have hm1 := h.1
  refine ⟨?_, ?_, ?_⟩
  · unfold aY
    rw [hmp, e1, hn, r1]
    split at e3 <;> split <;> omega
  · unfold aM
    rw [hmp, e1]
    split at e3 <;> split <;> omega
  · unfold aD
    rw [hmp]
    exact e2
/-- the text's own reckoning of a date's count -/
def bJd (y m d : Int) : Int :=
  let Yp := if m ≤ 2 then y + 4716 - 1 else y + 4716
  let Mp := if m ≤ 2 then m + 9 else m - 3
  1461 * Yp / 4 + (979 * Mp + 16) / 32 + d - 1364 - (Yp + 184) / 100 * 3 / 4
theorem jd_eq {c y m d : Int} (hy : 1 ≤ y) (h : DateIs c y m d) : bJd y m d = c + 1721426 := by
  obtain ⟨Y, M, q, hY, hM0, hM1, hq, hc, hq0, hq1, e1, e2, e3⟩ := march hy h
  have k : ((Y + 4716) + 184) / 100 * 3 / 4 = Y / 100 - Y / 400 + 36 := by omega
  have l : 1461 * (Y + 4716) / 4 = 365 * Y + Y / 4 + 1722519 := by omega
  unfold bJd
  unfold mYear mCum at *
  split at e3
  · rename_i h2
    simp only [if_pos h2]
    rw [show y + 4716 - 1 = Y + 4716 by omega, show m + 9 = M by omega, k, l]
    omega
  · rename_i h2
    simp only [if_neg h2]
    rw [show y + 4716 = Y + 4716 by omega, show m - 3 = M by omega, k, l]
    omega
end
section
def WS (whole S w s : Int) : Prop := (S = 86400 ∧ w = whole + 1 ∧ s = 0) ∨ (S ≠ 86400 ∧ w = whole ∧ s = S)
theorem pRead_ws {whole S mode w s : Int} (h0 : ¬ whole < 0) (hs : WS whole S w s) : pRead whole S mode =
    if w ≥ pTop mode then .text "large"
    else if w = 0 then .date 0 0 0 (s / 3600) (s / 60 % 60) (s % 60)
    else if w < 61 ∧ mode = 0 then .text "ambiguous"
    else .date (aY (w + pJd mode)) (aM (w + pJd mode)) (aD (w + pJd mode)) (s / 3600) (s / 60 % 60) (s % 60) := by
  rcases hs with ⟨rfl, rfl, rfl⟩ | ⟨h, rfl, rfl⟩
  · simp [pRead, h0]
  · simp [pRead, h0, h]
section
variable {whole S mode w s : Int}
theorem pRead_neg (h0 : whole < 0) : pRead whole S mode = .text (Str.ofString "negative") := by
  simp [pRead, h0]
theorem pRead_large (h0 : ¬ whole < 0) (hs : WS whole S w s) (h : pTop mode ≤ w) : pRead whole S mode = .text (Str.ofString "large") := by
  rw [pRead_ws h0 hs, if_pos h]
theorem pRead_zero (h0 : ¬ whole < 0) (hs : WS whole S w s) (h : ¬ pTop mode ≤ w) (hz : w = 0) : pRead whole S mode = .date 0 0 0 (s.fdiv 3600) ((s.fdiv 60).fmod 60) (s.fmod 60) := by
  rw [pRead_ws h0 hs, if_neg h, if_pos hz, Int.fdiv_eq_ediv_of_nonneg _ (by decide), Int.fdiv_eq_ediv_of_nonneg _ (by decide), Int.fmod_eq_emod_of_nonneg _ (by decide), Int.fmod_eq_emod_of_nonneg _ (by decide)]
theorem pRead_amb (h0 : ¬ whole < 0) (hs : WS whole S w s) (h : ¬ pTop mode ≤ w) (hz : w ≠ 0) (hm : mode = 0) (h6 : w < 61) : pRead whole S mode = .text (Str.ofString "ambiguous") := by
  rw [pRead_ws h0 hs, if_neg h, if_neg hz, if_pos ⟨h6, hm⟩]
theorem year_pos {c y m d : Int} (hc : 693000 ≤ c) (h : DateIs c y m d) : 1 ≤ y := by
  obtain ⟨a, b, d1, d2, rfl⟩ := h
  have l := pLong_pos y m a b
  obtain ⟨s2, s3, s4, s5, s6, s7, s8, s9, s10, s11, s12, s13⟩ := pCum_all y
  have s1 := pCum_one y
  have l2 := pLong_pos y 2 (by decide) (by decide)
  have u : pCum y m ≤ 337 := by
    have hm : m = 1 ∨ m = 2 ∨ m = 3 ∨ m = 4 ∨ m = 5 ∨ m = 6 ∨ m = 7 ∨ m = 8 ∨ m = 9 ∨ m = 10 ∨ m = 11 ∨ m = 12 := by omega
    rcases hm with rfl | rfl | rfl | rfl | rfl | rfl | rfl | rfl | rfl | rfl | rfl | rfl <;> omega
  unfold pCount pFirst at hc
  omega
theorem jd_base (hm : mode = 0 ∨ mode = 1) : pJd mode = pBase mode + 1721426 := by
  rcases hm with rfl | rfl <;> rfl
theorem pRead_date {y m d : Int} (hmo : mode = 0 ∨ mode = 1) (h0 : ¬ whole < 0) (hs : WS whole S w s) (h : ¬ pTop mode ≤ w) (hz : w ≠ 0) (h6 : ¬ (w < 61 ∧ mode = 0)) (D : DateIs (pBase mode + w) y m d) :
    pRead whole S mode = .date y m d (s.fdiv 3600) ((s.fdiv 60).fmod 60) (s.fmod 60) := by
  have hw : 0 ≤ w := by rcases hs with ⟨_, e, _⟩ | ⟨_, e, _⟩ <;> omega
  have hb : 693000 ≤ pBase mode + w := by rcases hmo with rfl | rfl <;> simp only [pBase] <;> omega
  obtain ⟨e1, e2, e3⟩ := alg_eq (year_pos hb D) D
  have e : w + pJd mode = pBase mode + w + 1721426 := by rw [jd_base hmo]; omega
  rw [pRead_ws h0 hs, if_neg h, if_neg hz, if_neg h6, e, e1, e2, e3, Int.fdiv_eq_ediv_of_nonneg _ (by decide), Int.fdiv_eq_ediv_of_nonneg _ (by decide), Int.fmod_eq_emod_of_nonneg _ (by decide), Int.fmod_eq_emod_of_nonneg _ (by decide)]
end
theorem telv_text {T : Tel} {x : Str} {t : Tok} (e : T = .text x) : TelV T (.str x t) [] := by rw [e]; exact ⟨rfl, t, rfl⟩
theorem telv_date {T : Tel} {y m d h i s : Int} {t1 t2 t3 t4 t5 t6 : Tok} {a : Addr} (e : T = .date y m d h i s) :
    TelV T (.ref a) [(a, { cls := .type "tuple", data := .seq #[.int y t1, .int m t2, .int d t3, .int h t4, .int i t5, .int s t6] })] := by
  rw [e]; exact ⟨a, t1, t2, t3, t4, t5, t6, rfl, rfl⟩
end
-- lines of the walk
local macro_rules | `(tactic| walk_at "mine enter") => `(tactic| (refine wpAny_call ?_; k_dflt (first
  | (refine' code_def ?k1 ?k2 ?k3 ?k4 ?k5 ?kA ?kF ?kK ?k6 ?k7 ?k8 ?k9 ?kB ?_ ?c2 ?c3 ?c4 ?c5; (case kA => exact rfl); (case kF => exact rfl); (case kK => first | assumption | exact rfl); (case k1 => k_asm); (case k2 => k_asm); (case k3 => k_asm); (case k4 => k_asm); (case k5 => k_asm); (case k6 => k_is); (case k7 => k_is); (case k8 => ktr_room); (case k9 => exact BindsTo.of_eq rfl); (case c5 => decide); (case kB => exact locs rfl); (case c2 => exact rfl); (case c3 => exact rfl); (case c4 => exact rfl); k_whole; intro g' L' h' FG' F' N' B' X' T'; (try dsimp only); (try k_lift B'); (try k_fold))
  | (refine' code_defC ?k1 ?k2 ?k3 ?k4 ?k5 ?kA ?kF ?kK ?k6 ?k7 ?k8 ?k9 ?kB ?kD ?_ ?c2 ?c3 ?c4; (case kA => exact rfl); (case kF => exact rfl); (case kK => first | assumption | exact rfl); (case k1 => k_asm); (case k2 => k_asm); (case k3 => k_asm); (case k4 => k_asm); (case k5 => k_asm); (case k6 => k_is); (case k7 => k_is); (case k8 => ktr_room); (case k9 => exact BindsTo.of_eq rfl); (case kB => exact rfl); (case kD => decide +kernel); (case c2 => exact rfl); (case c3 => exact rfl); (case c4 => exact rfl); k_whole; intro g' L' h' tk' cells' FG' F' N' Y' B' X' T' l1; (try k_lt l1); k_cells Y'; (try simp only [List.cons_append, List.nil_append] at N'); (try dsimp only); (try k_lift B'); (try k_fold)))))
local macro_rules | `(tactic| walk_at "call ref") => `(tactic| (k_here; refine Stuck.mk ?_))
local macro_rules | `(tactic| walk_at "call ref") => `(tactic| (k_here; (with_reducible show wpAny _ _ (PySem.call (Value.ref 132) _ _) _ _ _); walk_at "mine enter"))
local macro_rules | `(tactic| walk_at "call ref") => `(tactic| (k_here; (with_reducible show wpAny _ _ (PySem.call (Value.ref 140) _ _) _ _ _); walk_at "mine enter"))
local macro_rules | `(tactic| walk_at "call ref") => `(tactic| (k_here; (with_reducible show wpAny _ _ (PySem.call (Value.ref 103) _ _) _ _ _); walk_at "mine enter"))
local macro_rules | `(tactic| walk_at "call ref") => `(tactic| (k_here; (with_reducible show wpAny _ _ (PySem.call (Value.ref 96) _ _) _ _ _); walk_at "mine enter"))
local macro_rules | `(tactic| walk_at "call ref") => `(tactic| (k_here; (with_reducible show wpAny _ _ (PySem.call (Value.ref 111) _ _) _ _ _); walk_at "mine enter"))
local macro_rules | `(tactic| walk_at "call ref") => `(tactic| (k_here; (with_reducible show wpAny _ _ (PySem.call (Value.ref 118) _ _) _ _ _); walk_at "mine enter"))
local macro_rules | `(tactic| walk_at "call ref") => `(tactic| (k_here; (with_reducible show wpAny _ _ (PySem.call (Value.ref 125) _ _) _ _ _); walk_at "mine enter"))
local macro_rules | `(tactic| walk_at "execs cons") => `(tactic| (k_here; (with_reducible refine gen_toks ?_); intro tk; (with_reducible refine wpAny_execs_cons ?_); try dsimp only))
local macro_rules | `(tactic| walk_at "execs nil") => `(tactic| (k_here; (with_reducible refine gen_toks ?_); intro tk; (with_reducible refine wpAny_execs_nil ?_); try dsimp only))
local macro_rules | `(tactic| walk_at "mine mem") => `(tactic| (first | (with_reducible assumption) | (with_reducible apply mem_head) | (apply mem_head) | ((with_reducible apply mem_tail); walk_at "mine mem") | ((with_reducible apply List.mem_append_right); walk_at "mine mem") | ((with_reducible apply List.mem_append_left); walk_at "mine mem")))
local macro_rules | `(tactic| walk_at "mine sub") => `(tactic| (first | (with_reducible apply SubL.refl) | ((with_reducible apply SubL.cons); walk_at "mine mem"; walk_at "mine sub") | ((with_reducible apply SubL.skip); walk_at "mine sub")))
local macro_rules | `(tactic| walk_at "mine news") => `(tactic| ((try dsimp only [List.nil_append, List.cons_append]); first | with_reducible assumption | (refine' news_drop ?cbN ?cbS; (case cbN => assumption); (case cbS => walk_at "mine sub"))))
local macro_rules | `(tactic| walk_at "exec While Compare cons nil") => `(tactic| k_extra "mine while")
local macro_rules | `(tactic| walk_at "storeName") => `(tactic| (k_here; k_dflt ((first | (refine store_int ?_; intro tv) | (refine store_float ?_; intro tv) | (refine store_str ?_; intro tv) | skip); (refine' storeX_L ?F ?N ?_ ?a ?b; (case F => k_asm); (case N => k_asm); (case a => rfl); (case b => rfl); k_whole; intro h' F' N'; (try k_sweep)))))
local macro_rules | `(tactic| walk_at "mine has") => `(tactic| first | exact Has.nil | (refine' Has.cons ?ha ?hb; (case ha => k_dflt rfl); (case hb => walk_at "mine has")))
local macro_rules | `(tactic| walk_at "WhPost") => `(tactic| (dsimp only [WhPost]))
local macro_rules | `(tactic| walk_at "CutPost") => `(tactic| (dsimp only [CutPost]))
local macro_rules | `(tactic| walk_at "mine enterS") => `(tactic| (refine wpAny_call ?_; k_dflt (refine' code_defS0 ?k1 ?k2 ?k3 ?k4 ?k5 ?kA ?k6 ?k7 ?k8 ?k9 ?kB ?_ ?cK ?c2 ?c3 ?c4 ?c5; (case kA => exact rfl); (case k2 => k_asm); (case k1 => k_asm); (case k3 => k_asm); (case k4 => k_asm); (case k5 => k_asm); (case k6 => k_is); (case k7 => k_is); (case k8 => ktr_room); (case k9 => exact BindsTo.of_eq rfl); (case kB => exact locs rfl); (case cK => first | assumption | exact rfl); (case c2 => exact rfl); (case c3 => exact rfl); (case c4 => exact rfl); (case c5 => decide); k_whole; intro g' L' h' FG' F' N' B' X' T' D'; (try dsimp only); (try k_lift B'); (try k_fold))))
/-- the walk begins as in a file of its own -/
theorem freshC1 : True := by w_top off; exact True.intro
set_option maxRecDepth 100000 in
set_option maxHeartbeats 8000000 in
theorem c_first (y : Int) (ty : Tok) : Con 1 154 anyNews [.int y ty] (IntV (pFirst y)) := by
  unfold Con
  k_fill
  intro w mean mg mb dp un gd cn cs a ccd cl outer A₀ base h₀ L m news s Q E B F X N T hk hneed hd hu hret
  walk_at "mine enter"
  k_steps
  all_goals (refine hret _ [] _ _ (IntV.mk ?_) (by k_asm) (by walk_at "mine news"))
  simp only [pFirst, Int.fdiv_eq_ediv_of_nonneg _ (show (0:Int) ≤ 4 by decide), Int.fdiv_eq_ediv_of_nonneg _ (show (0:Int) ≤ 100 by decide), Int.fdiv_eq_ediv_of_nonneg _ (show (0:Int) ≤ 400 by decide)]

theorem fmod_pos (x : Int) {k : Int} (h : 0 ≤ k) : x.fmod k = x % k := Int.fmod_eq_emod_of_nonneg x h
theorem pLong_29 {y m : Int} (h1 : m = 2) (h2 : y.fmod 4 = 0) (h3 : y.fmod 100 ≠ 0 ∨ y.fmod 400 = 0) : 29 = pLong y m := by
  rw [fmod_pos _ (by decide)] at h2 h3
  rw [fmod_pos _ (by decide)] at h3
  rw [pLong, if_pos ⟨h1, h2, h3⟩]
theorem pLong_tab {y m : Int} (h : ¬ (m = 2 ∧ y.fmod 4 = 0 ∧ (y.fmod 100 ≠ 0 ∨ y.fmod 400 = 0))) : [31, 28, 31, 30, 31, 30, 31, 31, 30, 31, 30, 31].getD (m - 1).toNat 0 = pLong y m := by
  rw [fmod_pos _ (by decide), fmod_pos _ (by decide), fmod_pos _ (by decide)] at h
  rw [pLong, if_neg h]

set_option maxRecDepth 100000 in
set_option maxHeartbeats 8000000 in
theorem c_long (y mo : Int) (ty tm : Tok) (hm : 1 ≤ mo ∧ mo ≤ 12) : Con 2 147 anyNews [.int y ty, .int mo tm] (IntV (pLong y mo)) := by
  unfold Con
  k_fill
  intro w mean mg mb dp un gd cn cs a ccd cl outer A₀ base h₀ L m news s Q E B F X N T hk hneed hd hu hret
  walk_at "mine enter"
  k_steps
  all_goals (refine hret _ [] _ _ (IntV.mk ?_) (by k_asm) (by walk_at "mine news"))
  all_goals first
    | exact pLong_29 (by assumption) (by assumption) (.inl (by assumption))
    | exact pLong_29 (by assumption) (by assumption) (.inr (by assumption))
    | (refine pLong_tab ?_; simp [*]; done)

local macro_rules | `(tactic| walk_at "call ref") => `(tactic| (k_here; k_dflt (refine' con_use (c_long _ _ _ _ ?kp) ?k1 ?k2 ?k3 ?k4 ?k5 ?kK ?kn ?kd ?ku ?_; (case k1 => k_asm); (case k2 => k_asm); (case k3 => k_asm); (case k4 => k_asm); (case k5 => k_asm); (case kK => first | assumption | exact rfl); (case kd => ktr_room); (case ku => ktr_units); (case kn => first | trivial | k_mem | walk_at "mine mem"); (case kp => first | assumption | omega); intro v9 tl9 h9 tk9 r9 F9 N9; obtain ⟨e9, t9, f9⟩ := r9; subst e9 f9; (try dsimp only [List.nil_append, List.cons_append] at N9); (try dsimp only); (try k_fold); (try k_sweep))))
local macro_rules | `(tactic| walk_at "call ref") => `(tactic| (k_here; k_dflt (refine' con_use (c_first _ _) ?k1 ?k2 ?k3 ?k4 ?k5 ?kK ?kn ?kd ?ku ?_; (case k1 => k_asm); (case k2 => k_asm); (case k3 => k_asm); (case k4 => k_asm); (case k5 => k_asm); (case kK => first | assumption | exact rfl); (case kd => ktr_room); (case ku => ktr_units); (case kn => first | trivial | k_mem | walk_at "mine mem");  intro v9 tl9 h9 tk9 r9 F9 N9; obtain ⟨e9, t9, f9⟩ := r9; subst e9 f9; (try dsimp only [List.nil_append, List.cons_append] at N9); (try dsimp only); (try k_fold); (try k_sweep))))

set_option maxRecDepth 100000 in
set_option maxHeartbeats 8000000 in
theorem c_days (y mo d : Int) (ty tm td : Tok) : Con 4 159 anyNews [.int y ty, .int mo tm, .int d td] (IntV (pDays y mo d)) := by
  unfold Con
  k_fill
  intro w mean mg mb dp un gd cn cs a ccd cl outer A₀ base h₀ L m news s Q E B F X N T hk hneed hd hu hret
  walk_at "mine enter"
  k_steps
  all_goals (refine hret _ [] _ _ (IntV.mk ?_) (by k_asm) (by walk_at "mine news"))
  all_goals first
    | (refine pDays_yes ?_; refine ⟨?_, ?_, ?_, ?_, ?_, ?_⟩ <;> assumption)
    | (refine pDays_no ?_; rintro ⟨_, _, _, _, _, _⟩; contradiction)

local macro_rules | `(tactic| walk_at "call ref") => `(tactic| (k_here; k_dflt (refine' con_use (c_days _ _ _ _ _ _) ?k1 ?k2 ?k3 ?k4 ?k5 ?kK ?kn ?kd ?ku ?_; (case k1 => k_asm); (case k2 => k_asm); (case k3 => k_asm); (case k4 => k_asm); (case k5 => k_asm); (case kK => first | assumption | exact rfl); (case kd => ktr_room); (case ku => ktr_units); (case kn => first | trivial | k_mem | walk_at "mine mem");  intro v9 tl9 h9 tk9 r9 F9 N9; obtain ⟨e9, t9, f9⟩ := r9; subst e9 f9; (try dsimp only [List.nil_append, List.cons_append] at N9); (try dsimp only); (try k_fold); (try k_sweep))))
/-- the walk begins as in a file of its own -/
theorem freshC2 : True := by w_top off; exact True.intro
set_option maxRecDepth 100000 in
set_option maxHeartbeats 8000000 in
theorem c_date (c : Int) (tc : Tok) (hc : 693000 ≤ c ∧ c < 3653000) : Con 3 166 anyNews [.int c tc] (DateV c) := by
  unfold Con
  k_fill
  intro w mean mg mb dp un gd cn cs a ccd cl outer A₀ base h₀ L m news s Q E B F X N T hk hneed hd hu hret
  walk_at "mine enter"
  k_with_none
  k_with "mine while" => ((with_unfolding_all refine' my_while (σ := Int × Tok) (fun q => [(Str.ofString "count", .int c tc), (Str.ofString "year", .int q.1 q.2)]) (fun q => pFirst q.1 ≤ c ∧ 1000 ≤ q.1) (fun q => (c - q.1).toNat) (_, _) ?k1 ?k2 ?k3 ?_ ?_); (case k1 => k_asm); (case k2 => k_asm); (case k3 => (try dsimp only); walk_at "mine has"); rotate_left; rintro ⟨y9, ty9⟩ u9 h9 tk9 hP9 F9 N9; (try dsimp only at hP9 F9); (try dsimp only); (try k_fold); (try k_sweep))
  k_with "mine while" => ((with_unfolding_all refine' my_while (σ := Int × Tok × Int × Tok × Int × Tok) (fun q => [(Str.ofString "year", .int q.1 q.2.1), (Str.ofString "rest", .int q.2.2.1 q.2.2.2.1), (Str.ofString "month", .int q.2.2.2.2.1 q.2.2.2.2.2)]) (fun q => 1 ≤ q.2.2.2.2.1 ∧ q.2.2.2.2.1 ≤ 12 ∧ 0 ≤ q.2.2.1 ∧ pFirst q.1 ≤ c ∧ c < pFirst (q.1 + 1) ∧ q.2.2.1 = c - pFirst q.1 - pCum q.1 q.2.2.2.2.1) (fun q => (12 - q.2.2.2.2.1).toNat) (_, _, _, _, _, _) ?k1 ?k2 ?k3 ?_ ?_); (case k1 => k_asm); (case k2 => k_asm); (case k3 => (try dsimp only); walk_at "mine has"); rotate_left; rintro ⟨y9, ty9, re9, tre9, mo9, tmo9⟩ u9 h9 tk9 hP9 F9 N9; (try dsimp only at hP9 F9); (try dsimp only); (try k_fold); (try k_sweep))
  k_steps
  k_with_none
  · have q := first_ge hP9.2
    refine wh_end (_, _) (by k_asm) (by walk_at "mine news") (by (try dsimp only); walk_at "mine has") ?_ ?_ rfl rfl rfl <;> (dsimp only; omega)
  · obtain ⟨p1, p2, p3, p4, p5, p6⟩ := hP9
    have q2 := fun y => pCum_step y _ p1
    have q := fun x => cum_last p1 p2 p5 x
    rw [← p6] at q
    have q := q (by assumption)
    refine wh_end (_, _, _, _, _, _) (by k_asm) (by walk_at "mine news") (by (try dsimp only); walk_at "mine has") ?_ ?_ rfl rfl rfl
    · dsimp only
      rw [q2]
      omega
    · dsimp only; omega
  · exact hret _ [_] _ _ ⟨_, _, _, _, _, _, _, rfl, rfl, date_end hP9 (by assumption)⟩ (by k_asm) (by walk_at "mine news")
  · have z := pCum_one
    refine Hold.mk ?_
    dsimp only
    rw [z]
    omega
  · refine Hold.mk ?_
    dsimp only
    exact date_year0 hc.1
local macro_rules | `(tactic| walk_at "call ref") => `(tactic| (k_here; k_dflt (refine' con_use (c_date _ _ ?kp) ?k1 ?k2 ?k3 ?k4 ?k5 ?kK ?kn ?kd ?ku ?_; (case k1 => k_asm); (case k2 => k_asm); (case k3 => k_asm); (case k4 => k_asm); (case k5 => k_asm); (case kK => first | assumption | exact rfl); (case kd => ktr_room); (case ku => ktr_units); (case kn => first | trivial | k_mem | walk_at "mine mem"); (case kp => first | assumption | omega); intro v9 tl9 h9 tk9 r9 F9 N9; obtain ⟨a9, y9, m9, d9, t91, t92, t93, e9, f9, date9⟩ := r9; subst e9 f9; (try dsimp only [List.nil_append, List.cons_append] at N9); (try dsimp only); (try k_fold); (try k_sweep))))
/-- the walk begins as in a file of its own -/
theorem freshC3 : True := by w_top off; exact True.intro
set_option maxRecDepth 100000 in
set_option maxHeartbeats 8000000 in
theorem c_due (whole S mode : Int) (t1 t2 t3 t4 t5 : Tok) (hw : -10 ≤ whole ∧ whole < 2999000) (hS : 0 ≤ S ∧ S ≤ 86400) (hm : mode = 0 ∨ mode = 1) :
    Con 5 173 anyNews [.int whole t1, .int S t2, .int mode t3, .int (pBase mode) t4, .int (pTop mode) t5] (TelV (pRead whole S mode)) := by
  unfold Con
  k_fill
  intro w mean mg mb dp un gd cn cs a ccd cl outer A₀ base h₀ L m news s Q E B F X N T hk hneed hd hu hret
  rcases hm with rfl | rfl
  all_goals (
    simp only [show pBase 0 = 693593 from rfl, show pTop 0 = 2958466 from rfl, show pBase 1 = 695055 from rfl, show pTop 1 = 2957004 from rfl]
    walk_at "mine enter"
    k_steps)
  · exact hret _ [] _ _ (telv_text (pRead_neg (by assumption))) (by k_asm) (by walk_at "mine news")
  · exact hret _ [] _ _ (telv_text (pRead_large (by assumption) (.inl ⟨by assumption, rfl, rfl⟩) (by assumption))) (by k_asm) (by walk_at "mine news")
  · refine hret _ [_] _ _ (telv_date (pRead_zero (by assumption) (.inl ⟨by assumption, rfl, rfl⟩) (by assumption) (by assumption))) (by k_asm) (by walk_at "mine news")
  · exact hret _ [] _ _ (telv_text (pRead_amb (by assumption) (.inl ⟨by assumption, rfl, rfl⟩) (by assumption) (by assumption) rfl (by assumption))) (by k_asm) (by walk_at "mine news")
  · refine hret _ [_] _ _ (telv_date (pRead_date (.inl rfl) (by assumption) (.inl ⟨by assumption, rfl, rfl⟩) (by assumption) (by omega) (by omega) (by assumption))) (by k_asm) (by walk_at "mine news")
  · exact hret _ [] _ _ (telv_text (pRead_large (by assumption) (.inr ⟨by assumption, rfl, rfl⟩) (by assumption))) (by k_asm) (by walk_at "mine news")
  · refine hret _ [_] _ _ (telv_date (pRead_zero (by assumption) (.inr ⟨by assumption, rfl, rfl⟩) (by assumption) (by assumption))) (by k_asm) (by walk_at "mine news")
  · exact hret _ [] _ _ (telv_text (pRead_amb (by assumption) (.inr ⟨by assumption, rfl, rfl⟩) (by assumption) (by assumption) rfl (by assumption))) (by k_asm) (by walk_at "mine news")
  · refine hret _ [_] _ _ (telv_date (pRead_date (.inl rfl) (by assumption) (.inr ⟨by assumption, rfl, rfl⟩) (by assumption) (by omega) (by omega) (by assumption))) (by k_asm) (by walk_at "mine news")
  · exact hret _ [] _ _ (telv_text (pRead_neg (by assumption))) (by k_asm) (by walk_at "mine news")
  · exact hret _ [] _ _ (telv_text (pRead_large (by assumption) (.inl ⟨by assumption, rfl, rfl⟩) (by assumption))) (by k_asm) (by walk_at "mine news")
  · refine hret _ [_] _ _ (telv_date (pRead_zero (by assumption) (.inl ⟨by assumption, rfl, rfl⟩) (by assumption) (by assumption))) (by k_asm) (by walk_at "mine news")
  · refine hret _ [_] _ _ (telv_date (pRead_date (.inr rfl) (by assumption) (.inl ⟨by assumption, rfl, rfl⟩) (by assumption) (by omega) (by omega) (by assumption))) (by k_asm) (by walk_at "mine news")
  · exact hret _ [] _ _ (telv_text (pRead_large (by assumption) (.inr ⟨by assumption, rfl, rfl⟩) (by assumption))) (by k_asm) (by walk_at "mine news")
  · refine hret _ [_] _ _ (telv_date (pRead_zero (by assumption) (.inr ⟨by assumption, rfl, rfl⟩) (by assumption) (by assumption))) (by k_asm) (by walk_at "mine news")
  · refine hret _ [_] _ _ (telv_date (pRead_date (.inr rfl) (by assumption) (.inr ⟨by assumption, rfl, rfl⟩) (by assumption) (by omega) (by omega) (by assumption))) (by k_asm) (by walk_at "mine news")
local macro_rules | `(tactic| walk_at "call ref") => `(tactic| (k_here; k_dflt (refine' con_use (c_due _ _ _ _ _ _ _ _ ?kp ?kq ?kr) ?k1 ?k2 ?k3 ?k4 ?k5 ?kK ?kn ?kd ?ku ?_; (case k1 => k_asm); (case k2 => k_asm); (case k3 => k_asm); (case k4 => k_asm); (case k5 => k_asm); (case kK => first | assumption | exact rfl); (case kd => ktr_room); (case ku => ktr_units); (case kn => first | trivial | k_mem | walk_at "mine mem"); (case kp => first | assumption | omega); (case kq => first | assumption | omega); (case kr => first | assumption | omega); intro v9 tl9 h9 tk9 r9 F9 N9; skip; (try dsimp only [List.nil_append, List.cons_append] at N9); (try dsimp only); (try k_fold); (try k_sweep))))
section
/-- what a float is to the reading: its whole part, and the rounded seconds -/
structure FR (x : UInt64) (whole S : Int) : Prop where
  fin : Float64.isFinite x = true
  eq0 : (Float64.cmp x 0 == some Ordering.eq) = false
  lt0 : (Float64.cmp x 0 == some Ordering.lt) = false
  tr : Flt.toInt Float64.truncOf x = whole
  mf : Float64.isFinite (Float64.mul (Float64.sub x (Float64.ofInt whole)) 4680673776000565248) = true
  rd : Flt.toInt Float64.nearestOf (Float64.mul (Float64.sub x (Float64.ofInt whole)) 4680673776000565248) = S
  w : 0 ≤ whole ∧ whole < 2999000
  s : 0 ≤ S ∧ S ≤ 86400
section
variable {prog : Program} {w : World} {A : Around} {E : Value → Shared → Prop} {s : Shared} {x : UInt64} {t u : Tok} {n : Int} {Q : Value → Shared → Prop}
theorem int_f (hA : A.handled = none) (hf : Float64.isFinite x = true) (ht : Flt.toInt Float64.truncOf x = n) (h : Q (.int n s.toks) { s with toks := s.toks + 1 }) : wpAny (model prog w) A (PySem.call (.type "int") [.float x t]) Q E s := by
  refine Flt.call_int_float3 hA (fun q => ?_) (fun q => ?_) (fun _ => ht ▸ h)
  · rw [Flt.not_nan_of_finite hf] at q; cases q
  · rw [Flt.not_inf_of_finite hf] at q; cases q
theorem round_f (hA : A.handled = none) (hf : Float64.isFinite x = true) (ht : Flt.toInt Float64.nearestOf x = n) (h : Q (.int n s.toks) { s with toks := s.toks + 1 }) : wpAny (model prog w) A (PySem.call (.builtin "round") [.float x t]) Q E s := by
  refine Flt.call_round_float hA (fun q => ?_) (fun q => ?_) (fun _ => ht ▸ h)
  · rw [Flt.not_nan_of_finite hf] at q; cases q
  · rw [Flt.not_inf_of_finite hf] at q; cases q
theorem fit_of {n : Int} (h : -10 ≤ n ∧ n < 3000000) : n.natAbs < 2 ^ 1023 := by
  have : n.natAbs < 2 ^ 22 := by omega
  exact Nat.lt_of_lt_of_le this (Nat.pow_le_pow_right (by decide) (by decide))
theorem sub_fi (hn : -10 ≤ n ∧ n < 3000000) (h : Q (.float (Float64.sub x (Float64.ofInt n)) s.toks) { s with toks := s.toks + 1 }) : wpAny (model prog w) A (binaryOp .Sub (.float x t) (.int n u)) Q E s :=
  sub_fi_fits (fit_of hn) h
end
theorem clock_h (S : Int) : (S.fdiv 60).fdiv 60 = S / 3600 := by
  rw [Int.fdiv_eq_ediv_of_nonneg _ (by decide), Int.fdiv_eq_ediv_of_nonneg _ (by decide)]; omega
theorem clock_m (S : Int) : (S.fdiv 60).fmod 60 = S / 60 % 60 := by
  rw [Int.fdiv_eq_ediv_of_nonneg _ (by decide), Int.fmod_eq_emod_of_nonneg _ (by decide)]
theorem clock_s (S : Int) : S.fmod 60 = S % 60 := by
  rw [Int.fmod_eq_emod_of_nonneg _ (by decide)]
def kReg (n : Int) : Int := (((n * 4 + 274277).fdiv 146097 * 3).fdiv 4 + n + 1363) * 4 + 3
def kMp (n : Int) : Int := ((kReg n).fmod 1461).fdiv 4 * 535 + 333
theorem kReg_eq (n : Int) : kReg n = aReg n := by
  unfold kReg aReg
  rw [Int.fdiv_eq_ediv_of_nonneg _ (by decide), Int.fdiv_eq_ediv_of_nonneg _ (by decide)]
theorem kMp_eq (n : Int) : kMp n = aMp n := by
  unfold kMp aMp
  rw [kReg_eq, Int.fdiv_eq_ediv_of_nonneg _ (by decide), Int.fmod_eq_emod_of_nonneg _ (by decide)]
theorem pow14 : (2 : Int) ^ Int.toNat 14 = 16384 := by decide
section
variable {whole S mode w s a b c n : Int}
theorem pRead_zeroG (h0 : ¬ whole < 0) (hs : WS whole S w s) (h : ¬ pTop mode ≤ w) (hz : w = 0) (e1 : a = s / 3600) (e2 : b = s / 60 % 60) (e3 : c = s % 60) : pRead whole S mode = .date 0 0 0 a b c := by
  rw [pRead_ws h0 hs, if_neg h, if_pos hz, e1, e2, e3]
theorem pRead_hi (hn : n = w + pJd mode) (h0 : ¬ whole < 0) (hs : WS whole S w s) (h : ¬ pTop mode ≤ w) (hz : w ≠ 0) (h6 : ¬ (w < 61 ∧ mode = 0)) (h10 : 10 ≤ (kMp n).fdiv (2 ^ Int.toNat 14)) (e1 : a = s / 3600) (e2 : b = s / 60 % 60) (e3 : c = s % 60) :
    pRead whole S mode = .date ((kReg n).fdiv 1461 - 4715) ((kMp n).fdiv (2 ^ Int.toNat 14) - 9) (((kMp n).fmod 16384).fdiv 535 + 1) a b c := by
  rw [pow14, Int.fdiv_eq_ediv_of_nonneg _ (by decide), kMp_eq] at h10
  rw [pRead_ws h0 hs, if_neg h, if_neg hz, if_neg h6, e1, e2, e3, ← hn, pow14, kMp_eq, kReg_eq, Int.fdiv_eq_ediv_of_nonneg _ (by decide), Int.fdiv_eq_ediv_of_nonneg _ (by decide), Int.fdiv_eq_ediv_of_nonneg _ (by decide), Int.fmod_eq_emod_of_nonneg _ (by decide)]
  unfold aY aM aD
  rw [if_pos h10, if_pos h10]
theorem pRead_lo (hn : n = w + pJd mode) (h0 : ¬ whole < 0) (hs : WS whole S w s) (h : ¬ pTop mode ≤ w) (hz : w ≠ 0) (h6 : ¬ (w < 61 ∧ mode = 0)) (h10 : ¬ 10 ≤ (kMp n).fdiv (2 ^ Int.toNat 14)) (e1 : a = s / 3600) (e2 : b = s / 60 % 60) (e3 : c = s % 60) :
    pRead whole S mode = .date ((kReg n).fdiv 1461 - 4716) ((kMp n).fdiv (2 ^ Int.toNat 14) + 3) (((kMp n).fmod 16384).fdiv 535 + 1) a b c := by
  rw [pow14, Int.fdiv_eq_ediv_of_nonneg _ (by decide), kMp_eq] at h10
  rw [pRead_ws h0 hs, if_neg h, if_neg hz, if_neg h6, e1, e2, e3, ← hn, pow14, kMp_eq, kReg_eq, Int.fdiv_eq_ediv_of_nonneg _ (by decide), Int.fdiv_eq_ediv_of_nonneg _ (by decide), Int.fdiv_eq_ediv_of_nonneg _ (by decide), Int.fmod_eq_emod_of_nonneg _ (by decide)]
  unfold aY aM aD
  rw [if_neg h10, if_neg h10]
end
section
variable {prog : Program} {w : World} {A : Around} {E : Value → Shared → Prop} {s : Shared} {h₀ : Heap} {L : Addr} {m : Str → Option Value} {news : List (Addr × Obj)} {Q : Value → Shared → Prop}
theorem jdn_item {value slice : Expr} {K : Frag} {a : Addr} {dd : Option Addr} {n : Nat} {sl : Array (Option Value)} {k : Int} {u : Tok} {u1 u2 : Tok} (F : Fr h₀ L s.heap m) (X₀ : K.In h₀)
    (hl : K.lookup a = some ⟨.type "tuple", dd, .seq [Value.int 2415019 u1, .int 2416481 u2].toArray n, sl⟩)
    (h1 : k = 0 ∨ k = 1) (h : ∀ t, Q (.int (pJd k) t) s)
    (hs : subscripted slice false (.ref a) (.int k u) = operate [.ref a, .int k u] (getItem (.ref a) (.int k u)) := by with_unfolding_all rfl) :
    wpAny (model prog w) A (subscriptTail value slice (.ref a) (.int k u)) Q E s := by
  rcases h1 with rfl | rfl
  · exact topTup_K F X₀ hl (by decide) (by decide) rfl rfl (h _) hs
  · exact topTup_K F X₀ hl (by decide) (by decide) rfl rfl (h _) hs
theorem top_item {value slice : Expr} {K : Frag} {a : Addr} {dd : Option Addr} {n : Nat} {sl : Array (Option Value)} {k : Int} {u : Tok} {u1 u2 : Tok} (F : Fr h₀ L s.heap m) (X₀ : K.In h₀)
    (hl : K.lookup a = some ⟨.type "tuple", dd, .seq [Value.int 2958466 u1, .int 2957004 u2].toArray n, sl⟩)
    (h1 : k = 0 ∨ k = 1) (h : ∀ t, Q (.int (pTop k) t) s)
    (hs : subscripted slice false (.ref a) (.int k u) = operate [.ref a, .int k u] (getItem (.ref a) (.int k u)) := by with_unfolding_all rfl) :
    wpAny (model prog w) A (subscriptTail value slice (.ref a) (.int k u)) Q E s := by
  rcases h1 with rfl | rfl
  · exact topTup_K F X₀ hl (by decide) (by decide) rfl rfl (h _) hs
  · exact topTup_K F X₀ hl (by decide) (by decide) rfl rfl (h _) hs
end
theorem mode_in {mode : Int} (hm : mode = 0 ∨ mode = 1) : ([0, 1].any fun x => x == mode) = true := by
  rcases hm with rfl | rfl <;> rfl
end
-- lines of the walk
local macro_rules | `(tactic| walk_at "call type:int") => `(tactic| (k_here; k_dflt (refine int_f rfl (by assumption) (by assumption) ?_; try dsimp only)))
local macro_rules | `(tactic| walk_at "call builtin:round") => `(tactic| (k_here; k_dflt (refine round_f rfl (by assumption) (by assumption) ?_; try dsimp only)))
local macro_rules | `(tactic| walk_at "binaryOp Sub float int") => `(tactic| (k_here; k_dflt (refine sub_fi (by first | assumption | omega) ?_; try dsimp only)))
local macro_rules | `(tactic| walk_at "subscriptTail") => `(tactic| (k_here; (with_reducible show wpAny _ _ (subscriptTail _ _ (Value.ref _) (Value.int _ _)) _ _ _); k_dflt (refine' jdn_item ?F ?X ?l ?h1 ?_ ?hs; (case F => k_asm); (case X => k_asm); (case l => k_is); (case h1 => assumption); (case hs => with_unfolding_all rfl); intro tv9)))
local macro_rules | `(tactic| walk_at "subscriptTail") => `(tactic| (k_here; (with_reducible show wpAny _ _ (subscriptTail _ _ (Value.ref _) (Value.int _ _)) _ _ _); k_dflt (refine' top_item ?F ?X ?l ?h1 ?_ ?hs; (case F => k_asm); (case X => k_asm); (case l => k_is); (case h1 => assumption); (case hs => with_unfolding_all rfl); intro tv9)))
/-- the walk begins as in a file of its own -/
theorem freshC4 : True := by w_top off; exact True.intro
set_option maxRecDepth 100000 in
set_option maxHeartbeats 8000000 in
theorem c_read_f (x : UInt64) (whole S mode : Int) (t1 t2 : Tok) (hx : FR x whole S) (hm : mode = 0 ∨ mode = 1) :
    ConL 5 180 anyNews [.float x t1, .int mode t2] (TelV (pRead whole S mode)) := by
  obtain ⟨x1, x2, x3, x4, x5, x6, x7, x8⟩ := hx
  have h0 : ¬ whole < 0 := by omega
  have hin := mode_in hm
  unfold ConL
  k_fill
  intro w mean mg mb dp un gd cn cs a ccd A₀ h₀ L m news s Q E B F X N T hk hneed hd hu hret
  walk_at "mine enterS"
  k_steps
  all_goals first
    | (exfalso; omega)
    | exact hret _ [] _ _ (telv_text (pRead_large h0 (.inl ⟨by assumption, rfl, rfl⟩) (by assumption))) (by k_asm) (by walk_at "mine news")
    | exact hret _ [] _ _ (telv_text (pRead_large h0 (.inr ⟨by assumption, rfl, rfl⟩) (by assumption))) (by k_asm) (by walk_at "mine news")
    | exact hret _ [] _ _ (telv_text (pRead_amb h0 (.inl ⟨by assumption, rfl, rfl⟩) (by assumption) (by assumption) (by assumption) (by assumption))) (by k_asm) (by walk_at "mine news")
    | exact hret _ [] _ _ (telv_text (pRead_amb h0 (.inr ⟨by assumption, rfl, rfl⟩) (by assumption) (by assumption) (by assumption) (by assumption))) (by k_asm) (by walk_at "mine news")
    | exact hret _ [_] _ _ (telv_date (pRead_hi (n := _ + pJd mode) rfl h0 (.inl ⟨by assumption, rfl, rfl⟩) (by assumption) (by assumption) (by omega) (by assumption) rfl rfl rfl)) (by k_asm) (by walk_at "mine news")
    | exact hret _ [_] _ _ (telv_date (pRead_lo (n := _ + pJd mode) rfl h0 (.inl ⟨by assumption, rfl, rfl⟩) (by assumption) (by assumption) (by omega) (by assumption) rfl rfl rfl)) (by k_asm) (by walk_at "mine news")
    | exact hret _ [_] _ _ (telv_date (pRead_hi (n := _ + pJd mode) rfl h0 (.inr ⟨by assumption, rfl, rfl⟩) (by assumption) (by assumption) (by omega) (by assumption) (clock_h _) (clock_m _) (clock_s _))) (by k_asm) (by walk_at "mine news")
    | exact hret _ [_] _ _ (telv_date (pRead_lo (n := _ + pJd mode) rfl h0 (.inr ⟨by assumption, rfl, rfl⟩) (by assumption) (by assumption) (by omega) (by assumption) (clock_h _) (clock_m _) (clock_s _))) (by k_asm) (by walk_at "mine news")
    | exact hret _ [_] _ _ (telv_date (pRead_zeroG h0 (.inr ⟨by assumption, rfl, rfl⟩) (by assumption) (by assumption) (clock_h _) (clock_m _) (clock_s _))) (by k_asm) (by walk_at "mine news")
/-- the walk begins as in a file of its own -/
theorem freshC5 : True := by w_top off; exact True.intro
set_option maxRecDepth 100000 in
set_option maxHeartbeats 8000000 in
theorem c_read_m (v o : Int) (t1 t2 : Tok) (hm : o ≠ 0 ∧ o ≠ 1) :
    ConL 5 180 anyNews [.int v t1, .int o t2] (TelV (.text (Str.ofString "mode"))) := by
  have hin : ([0, 1].any fun x => x == o) = false := by simp [Ne.symm hm.1, Ne.symm hm.2]
  unfold ConL
  k_fill
  intro w mean mg mb dp un gd cn cs a ccd A₀ h₀ L m news s Q E B F X N T hk hneed hd hu hret
  walk_at "mine enterS"
  k_steps
  exact hret _ [] _ _ (telv_text rfl) (by k_asm) (by walk_at "mine news")
set_option maxRecDepth 100000 in
set_option maxHeartbeats 8000000 in
theorem c_read_nf (x : UInt64) (whole S mode : Int) (t1 t2 : Tok) (x2 : (Float64.cmp x 0 == some Ordering.eq) = false) (x3 : (Float64.cmp x 0 == some Ordering.lt) = true) (hw : whole < 0) (hm : mode = 0 ∨ mode = 1) :
    ConL 5 180 anyNews [.float x t1, .int mode t2] (TelV (pRead whole S mode)) := by
  unfold ConL
  k_fill
  intro w mean mg mb dp un gd cn cs a ccd A₀ h₀ L m news s Q E B F X N T hk hneed hd hu hret
  have hin := mode_in hm
  walk_at "mine enterS"
  k_steps
  exact hret _ [] _ _ (telv_text (pRead_neg hw)) (by k_asm) (by walk_at "mine news")
theorem pRead_00 {mode : Int} (hm : mode = 0 ∨ mode = 1) : pRead 0 0 mode = .date 0 0 0 0 0 0 := by
  rcases hm with rfl | rfl <;> rfl
set_option maxRecDepth 100000 in
set_option maxHeartbeats 8000000 in
theorem c_read_z (x : UInt64) (mode : Int) (t1 t2 : Tok) (x2 : (Float64.cmp x 0 == some Ordering.eq) = true) (hm : mode = 0 ∨ mode = 1) :
    ConL 5 180 anyNews [.float x t1, .int mode t2] (TelV (pRead 0 0 mode)) := by
  have e := pRead_00 hm
  unfold ConL
  k_fill
  intro w mean mg mb dp un gd cn cs a ccd A₀ h₀ L m news s Q E B F X N T hk hneed hd hu hret
  have hin := mode_in hm
  walk_at "mine enterS"
  k_steps
  refine hret _ [_] _ _ (telv_date e) (by k_asm) (by walk_at "mine news")
set_option maxRecDepth 100000 in
set_option maxHeartbeats 8000000 in
theorem c_read_i0 (v mode : Int) (t1 t2 : Tok) (x2 : (Float64.cmpInt 0 v == some Ordering.eq) = true) (hm : mode = 0 ∨ mode = 1) :
    ConL 5 180 anyNews [.int v t1, .int mode t2] (TelV (pRead 0 0 mode)) := by
  have e := pRead_00 hm
  unfold ConL
  k_fill
  intro w mean mg mb dp un gd cn cs a ccd A₀ h₀ L m news s Q E B F X N T hk hneed hd hu hret
  have hin := mode_in hm
  walk_at "mine enterS"
  k_steps
  refine hret _ [_] _ _ (telv_date e) (by k_asm) (by walk_at "mine news")
set_option maxRecDepth 100000 in
set_option maxHeartbeats 8000000 in
theorem c_read_in (whole S mode : Int) (t1 t2 : Tok) (hw : whole < 0) (hm : mode = 0 ∨ mode = 1) (x2 : (Float64.cmpInt 0 whole == some Ordering.eq) = false) (x3 : (Float64.cmpInt 0 whole == some Ordering.gt) = true) :
    ConL 5 180 anyNews [.int whole t1, .int mode t2] (TelV (pRead whole S mode)) := by
  unfold ConL
  k_fill
  intro w mean mg mb dp un gd cn cs a ccd A₀ h₀ L m news s Q E B F X N T hk hneed hd hu hret
  have hin := mode_in hm
  walk_at "mine enterS"
  k_steps
  exact hret _ [] _ _ (telv_text (pRead_neg hw)) (by k_asm) (by walk_at "mine news")
/-- the walk begins as in a file of its own -/
theorem freshC6 : True := by w_top off; exact True.intro
set_option maxRecDepth 100000 in
set_option maxHeartbeats 8000000 in
theorem c_read_ip (whole mode : Int) (t1 t2 : Tok) (hw : 0 < whole ∧ whole < 2999000) (hm : mode = 0 ∨ mode = 1) (x2 : (Float64.cmpInt 0 whole == some Ordering.eq) = false) (x3 : (Float64.cmpInt 0 whole == some Ordering.gt) = false)
    (x5 : Float64.isFinite (Float64.mul (Float64.ofInt (whole - whole)) 4680673776000565248) = true) (x6 : Flt.toInt Float64.nearestOf (Float64.mul (Float64.ofInt (whole - whole)) 4680673776000565248) = 0) :
    ConL 5 180 anyNews [.int whole t1, .int mode t2] (TelV (pRead whole 0 mode)) := by
  have h0 : ¬ whole < 0 := by omega
  unfold ConL
  k_fill
  intro w mean mg mb dp un gd cn cs a ccd A₀ h₀ L m news s Q E B F X N T hk hneed hd hu hret
  have hin := mode_in hm
  walk_at "mine enterS"
  k_steps
  all_goals first
    | (exfalso; omega)
    | exact hret _ [] _ _ (telv_text (pRead_large h0 (.inr ⟨by decide, rfl, rfl⟩) (by assumption))) (by k_asm) (by walk_at "mine news")
    | exact hret _ [] _ _ (telv_text (pRead_amb h0 (.inr ⟨by decide, rfl, rfl⟩) (by assumption) (by assumption) (by assumption) (by assumption))) (by k_asm) (by walk_at "mine news")
    | exact hret _ [_] _ _ (telv_date (pRead_hi (n := _ + pJd mode) rfl h0 (.inr ⟨by decide, rfl, rfl⟩) (by assumption) (by assumption) (by omega) (by assumption) (clock_h _) (clock_m _) (clock_s _))) (by k_asm) (by walk_at "mine news")
    | exact hret _ [_] _ _ (telv_date (pRead_lo (n := _ + pJd mode) rfl h0 (.inr ⟨by decide, rfl, rfl⟩) (by assumption) (by assumption) (by omega) (by assumption) (clock_h _) (clock_m _) (clock_s _))) (by k_asm) (by walk_at "mine news")
section
open PySem.Calls
theorem adjust_upto (b n : Nat) (hb : b ≤ n) : Builtin.Slice.sliceAdjust none (some (b : Int)) 1 (n : Int) = (0, (b : Int)) := by
  unfold Builtin.Slice.sliceAdjust
  have h1 : ¬ ((1 : Int) < 0) := by decide
  have h2 : ¬ ((b : Int) < 0) := by omega
  simp only [h1, h2, if_false]
  rw [Int.min_eq_left (by omega)]
theorem places_upto (b : Nat) : Builtin.Slice.slicePlaces 0 (b : Int) 1 = b := by
  unfold Builtin.Slice.slicePlaces
  have h1 : (1 : Int) > 0 := by decide
  simp only [h1, if_true, Int.ediv_one]
  split <;> omega
section
variable {prog : Program} {w : World} {A : Around} {E : Value → Shared → Prop} {s : Shared}
theorem sliceApplied_upto {sl : Addr} {b n : Nat} {u : Tok} {Q : Int × Int × Nat → Shared → Prop} (hs : s.heap.IsSliceOf sl .none (.int b u) .none) (hb : b ≤ n) (h : Q (0, 1, b) s) :
    wpAny (model prog w) A (Builtin.Slice.sliceApplied (.ref sl) (pure (n : Int))) Q E s := by
  obtain ⟨os, hos, hcs, hds⟩ := id hs
  unfold Builtin.Slice.sliceApplied Builtin.Slice.sliceFields
  refine wpAny_bind (wpAny_bind (wpAny_field hos hds (x := .none) rfl (wpAny_bind (wpAny_field hos hds (x := .int b u) rfl (wpAny_bind (wpAny_field hos hds (x := .none) rfl (wpAny_pure ?_)))))))
  refine wpAny_bind (slicePart_none ?_)
  show wpAny _ _ (if ((1 : Int) == 0) = true then _ else _) _ _ s
  rw [if_neg (by decide)]
  refine wpAny_bind (slicePart_none (wpAny_bind (slicePart_int (wpAny_bind (wpAny_pure ?_)))))
  show wpAny _ _ (match Builtin.Slice.sliceAdjust none (some (b : Int)) 1 (n : Int) with | (lo, hi) => pure (lo, (1 : Int), Builtin.Slice.slicePlaces lo hi 1)) _ _ s
  rw [adjust_upto b n hb]
  show wpAny _ _ (pure ((0 : Int), (1 : Int), Builtin.Slice.slicePlaces 0 (b : Int) 1)) _ _ s
  rw [places_upto b]
  exact wpAny_pure h
theorem getItem_tuple_upto {t sl : Addr} {items xs : Array Value} {b : Nat} {u : Tok} {Q : Value → Shared → Prop} (ht : IsTup s.heap t items) (hs : s.heap.IsSliceOf sl .none (.int b u) .none) (hb : b < items.size)
    (hx : ((List.range b).filterMap fun (k : Nat) => items[((0 : Int) + (k : Int) * 1).toNat]?).toArray = xs) (hsz : xs.size ≤ sizeLine)
    (h : Q (.ref s.heap.objs.size) { s with heap := s.heap.push { cls := .type "tuple", data := .seq xs } }) : wpAny (model prog w) A (getItem (.ref t) (.ref sl)) Q E s := by
  obtain ⟨os, hos, hcs, hds⟩ := id hs
  have hTs : s.TypeIs (.ref sl) "slice" := ⟨os, hos, hcs⟩
  unfold getItem
  try with_reducible refine wpAny_holding ?_
  first | refine wpAny_bind (wpAny_pure ?_) | skip
  refine wpAny_bind (wpAny_sequenceKey ht.typeIs (by decide) ?_)
  refine wpAny_bind (wpAny_callSpecial?_slot (name := Str.ofString "__getitem__") ht.typeIs slot_tuple_getitem
    (wpAny_call_entry slot_tuple_getitem ht.typeIs entry_tuple_getitem ?_ (args_tuple_getitem _ _)))
  show wpAny _ _ (Builtin.Tuple.tupleItemsOf (.ref t) >>= _) _ _ s
  refine wpAny_bind (tupleItemsOf_ ht ?_)
  refine wpAny_bind (wpAny_typeOf hTs ?_)
  rw [if_pos (by decide)]
  refine wpAny_bind (sliceApplied_upto hs (Nat.le_of_lt hb) ?_)
  have hno : ¬ (((0 : Int) == 0 && (1 : Int) == 1 && b == items.size) = true) := by
    have : (b == items.size) = false := by rw [beq_eq_false_iff_ne]; omega
    rw [this]; simp
  show wpAny _ _ (if ((0 : Int) == 0 && (1 : Int) == 1 && b == items.size) = true then _ else _) _ _ s
  rw [if_neg hno, hx]
  first
    | exact wpAny_bind (m := Builtin.Tuple.tupleExact _) (wpAny_newObj_type (wpAny_pure ⟨_, rfl, wpAny_pure h⟩) hsz)
    | exact wpAny_bind (m := Builtin.Tuple.tupleExact _) (wpAny_newObj_type (wpAny_bind (wpAny_pure (wpAny_pure ⟨_, rfl, wpAny_pure h⟩))) hsz)
    | exact wpAny_bind (wpAny_bind (m := Builtin.Tuple.tupleExact _) (wpAny_newObj_type (wpAny_pure (wpAny_pure ⟨_, rfl, wpAny_pure h⟩)) hsz))
    | exact wpAny_bind (wpAny_bind (m := Builtin.Tuple.tupleExact _) (wpAny_newObj_type (wpAny_pure ⟨_, rfl, wpAny_pure h⟩) hsz))
end
section
variable {prog : Program} {w : World} {A : Around} {E : Value → Shared → Prop} {h₀ h : Heap} {L : Addr} {m : Str → Option Value} {news : List (Addr × Obj)} {g : Array GenState} {d : Drawn} {tk : Nat} {o : OsState}
  {value slice : Expr} {t : Addr} {v0 v1 v2 v3 v4 v5 : Value} {u : Tok} {Q : Value → Shared → Prop}
theorem six_upto (F : Fr h₀ L h m) (N : News h₀ L h news) (ht : (t, ({ cls := .type "tuple", data := .seq #[v0, v1, v2, v3, v4, v5] } : Obj)) ∈ news)
    (H : ∀ h' D, Fr h₀ L h' m → News h₀ L h' ((D, { cls := .type "tuple", data := .seq #[v0, v1, v2] }) :: news) → (∀ p ∈ news, p.1 < D) → Q (.ref D) ⟨h', g, d, tk, o⟩)
    (hs : subscripted slice false (.ref t) (.ref h.objs.size) = operate [.ref h.objs.size, .ref t] (getItem (.ref t) (.ref h.objs.size)) := by with_unfolding_all rfl)
    (hg : ∀ r, letTemporaryGo value (.ref t) r = pure () := by intro _; with_unfolding_all rfl) :
    wpAny (model prog w) A (subscriptTail value slice (.ref t) (.ref h.objs.size)) Q E ⟨h.push { cls := .type "slice", data := .fields #[.none, .int 3 u, .none] }, g, d, tk, o⟩ := by
  have ht0 : IsTup h t #[v0, v1, v2, v3, v4, v5] := News.isTup N ht
  have ht' : IsTup (h.push { cls := .type "slice", data := .fields #[.none, .int 3 u, .none] }) t #[v0, v1, v2, v3, v4, v5] := ht0.keeps fun _ _ e => Heap.get?_push_of_some _ e
  refine subscriptTail_ops (s := ⟨h.push { cls := .type "slice", data := .fields #[.none, .int 3 u, .none] }, g, d, tk, o⟩) ht'.typeIs slot_tuple_getitem.lookup
    (getItem_tuple_upto (b := 3) (xs := #[v0, v1, v2]) ht' (Heap.IsSliceOf.new ..) (show 3 < 6 by decide) rfl (show 3 ≤ sizeLine by decide) ?_) hs hg
  have N1 := News.push (F.push { cls := .type "slice", data := .fields #[.none, .int 3 u, .none] }) (N.grown fun _ _ e => Heap.get?_push_of_some _ e) { cls := .type "tuple", data := .seq #[v0, v1, v2] }
  exact H _ _ ((F.push _).push _) N1 (fun p hp => by
    have q : @LT.lt Nat _ p.1 h.objs.size := Heap.lt_size (N p hp).1
    show @LT.lt Nat _ p.1 (h.push _).objs.size
    rw [Heap.size_push]; exact Nat.lt_succ_of_lt q)
theorem six_from (F : Fr h₀ L h m) (N : News h₀ L h news) (ht : (t, ({ cls := .type "tuple", data := .seq #[v0, v1, v2, v3, v4, v5] } : Obj)) ∈ news)
    (H : ∀ h' D, Fr h₀ L h' m → News h₀ L h' ((D, { cls := .type "tuple", data := .seq #[v3, v4, v5] }) :: news) → (∀ p ∈ news, p.1 < D) → Q (.ref D) ⟨h', g, d, tk, o⟩)
    (hs : subscripted slice false (.ref t) (.ref h.objs.size) = operate [.ref h.objs.size, .ref t] (getItem (.ref t) (.ref h.objs.size)) := by with_unfolding_all rfl)
    (hg : ∀ r, letTemporaryGo value (.ref t) r = pure () := by intro _; with_unfolding_all rfl) :
    wpAny (model prog w) A (subscriptTail value slice (.ref t) (.ref h.objs.size)) Q E ⟨h.push { cls := .type "slice", data := .fields #[.int 3 u, .none, .none] }, g, d, tk, o⟩ := by
  have ht0 : IsTup h t #[v0, v1, v2, v3, v4, v5] := News.isTup N ht
  have ht' : IsTup (h.push { cls := .type "slice", data := .fields #[.int 3 u, .none, .none] }) t #[v0, v1, v2, v3, v4, v5] := ht0.keeps fun _ _ e => Heap.get?_push_of_some _ e
  refine subscriptTail_ops (s := ⟨h.push { cls := .type "slice", data := .fields #[.int 3 u, .none, .none] }, g, d, tk, o⟩) ht'.typeIs slot_tuple_getitem.lookup
    (getItem_tuple_from (a := 3) ht' (Heap.IsSliceOf.new ..) (by decide) (show 3 ≤ 6 by decide) ?_ (show 6 ≤ sizeLine by decide)) hs hg
  have N1 := News.push (F.push { cls := .type "slice", data := .fields #[.int 3 u, .none, .none] }) (N.grown fun _ _ e => Heap.get?_push_of_some _ e) { cls := .type "tuple", data := .seq #[v3, v4, v5] }
  exact H _ _ ((F.push _).push _) N1 (fun p hp => by
    have q : @LT.lt Nat _ p.1 h.objs.size := Heap.lt_size (N p hp).1
    show @LT.lt Nat _ p.1 (h.push _).objs.size
    rw [Heap.size_push]; exact Nat.lt_succ_of_lt q)
end
end
-- lines of the walk
local macro_rules | `(tactic| walk_at "subscriptTail") => `(tactic| (k_here; (with_reducible show wpAny _ _ (subscriptTail _ (PySem.Expr.Slice _ _ _ _) (Value.ref _) (Value.ref _)) _ _ _); (try dsimp only); k_dflt (first | (refine' six_upto ?k1 ?k2 ?k3 ?_ ?k4 ?k5; (case k1 => k_asm); (case k2 => k_asm); (case k3 => first | k_mem | walk_at "mine mem"); (case k4 => with_unfolding_all rfl); (case k5 => (intro _; with_unfolding_all rfl)); k_whole) | (refine' six_from ?k1 ?k2 ?k3 ?_ ?k4 ?k5; (case k1 => k_asm); (case k2 => k_asm); (case k3 => first | k_mem | walk_at "mine mem"); (case k4 => with_unfolding_all rfl); (case k5 => (intro _; with_unfolding_all rfl)); k_whole)); intro h' D' F' N' l1; (try k_lt l1); (try k_sweep)))
section
open PySem.Calls
section
variable {prog : Program} {w : World} {A : Around} {E : Value → Shared → Prop} {s : Shared} {h₀ : Heap} {L : Addr} {m : Str → Option Value} {news : List (Addr × Obj)} {Q : Value → Shared → Prop}
theorem show_len {a : Int} (h : -200000 ≤ a ∧ a ≤ 200000) : (PyData.shown (.int a)).length ≤ 8 := by
  have e := int_text_length_le10 (a := a) (k := 7) (by decide) (by omega)
  show (Str.ofString (toString a)).length ≤ 8
  rw [PySem.ofString_length]
  exact e
theorem show_ok {a : Int} (h : -200000 ≤ a ∧ a ≤ 200000) : PyData.showable (.int a) = true := by
  show decide (a.natAbs.log2 < 1920) = true
  rw [decide_eq_true_iff]
  by_cases h0 : a.natAbs = 0
  · rw [h0]; decide
  · exact (Nat.log2_lt h0).mpr (Nat.lt_of_lt_of_le (show a.natAbs < 2 ^ 20 by omega) (Nat.pow_le_pow_right (by decide) (by decide)))
theorem repr3 {t : Addr} {a b c : Int} {t1 t2 t3 : Tok} (F : Fr h₀ L s.heap m) (N : News h₀ L s.heap news) (ht : (t, ({ cls := .type "tuple", data := .seq #[.int a t1, .int b t2, .int c t3] } : Obj)) ∈ news)
    (ha : -200000 ≤ a ∧ a ≤ 200000) (hb : -200000 ≤ b ∧ b ≤ 200000) (hc : -200000 ≤ c ∧ c ≤ 200000) (hg : A.guards = some []) (hu : A.units + 2 < cLine)
    (H : ∀ x h' u tk, x.length ≤ 100 → Fr h₀ L h' m → News h₀ L h' news → Q (.str x u) { s with heap := h', toks := tk }) : wpAny (model prog w) A (pyReprObj (.ref t)) Q E s := by
  have r : ReadsVia h₀ news (.ref t) (.tuple [.int a, .int b, .int c]) := ReadsVia.tuple (vs := [.int a t1, .int b t2, .int c t3]) ht (.cons (.int _ _) (.cons (.int _ _) (.cons (.int _ _) .nil)))
  have hl : (PyData.shown (.tuple [.int a, .int b, .int c])).length ≤ 100 := by
    have e := tupleText_len_le (PyData.shownAll [.int a, .int b, .int c])
    simp only [PyData.shownAll, List.map_cons, List.map_nil, List.sum_cons, List.sum_nil, List.length_cons, List.length_nil] at e
    have e1 := show_len ha
    have e2 := show_len hb
    have e3 := show_len hc
    show (tupleText (PyData.shownAll [.int a, .int b, .int c])).length ≤ 100
    simp only [PyData.shownAll]
    omega
  refine pyReprObj_via r F N ?_ rfl rfl hg ?_ (fun h' u tk F' N' => H _ h' u tk hl F' N') ?_
  · show PyData.showableAll [.int a, .int b, .int c] = true
    simp only [PyData.showableAll, show_ok ha, show_ok hb, show_ok hc, Bool.and_self, Bool.and_true]
  · simp only [PyData.depth, PyData.depthAll, Nat.max_self, Nat.zero_max, Nat.max_zero]
    omega
  · have : 100 ≤ sizeLine := by decide
    omega
/-- the months' lengths of the project's table -/
def kMon (k : Int) : Int := [31, 28, 31, 30, 31, 30, 31, 31, 30, 31, 30, 31].getD (k - 1).toNat 0
theorem months_item {value slice : Expr} {K : Frag} {a : Addr} {dd : Option Addr} {n : Nat} {sl : Array (Option Value)} {k : Int} {u : Tok} {u1 u2 u3 u4 u5 u6 u7 u8 u9 u10 u11 u12 : Tok} (F : Fr h₀ L s.heap m) (X₀ : K.In h₀)
    (hl : K.lookup a = some ⟨.type "tuple", dd, .seq [Value.none, .int 31 u1, .int 28 u2, .int 31 u3, .int 30 u4, .int 31 u5, .int 30 u6, .int 31 u7, .int 31 u8, .int 30 u9, .int 31 u10, .int 30 u11, .int 31 u12].toArray n, sl⟩)
    (h1 : 1 ≤ k ∧ k ≤ 12) (h : ∀ t, Q (.int (kMon k) t) s)
    (hs : subscripted slice false (.ref a) (.int k u) = operate [.ref a, .int k u] (getItem (.ref a) (.int k u)) := by with_unfolding_all rfl) :
    wpAny (model prog w) A (subscriptTail value slice (.ref a) (.int k u)) Q E s := by
  have hk : k = 1 ∨ k = 2 ∨ k = 3 ∨ k = 4 ∨ k = 5 ∨ k = 6 ∨ k = 7 ∨ k = 8 ∨ k = 9 ∨ k = 10 ∨ k = 11 ∨ k = 12 := by omega
  rcases hk with rfl | rfl | rfl | rfl | rfl | rfl | rfl | rfl | rfl | rfl | rfl | rfl
  · exact topTup_K F X₀ hl (by decide) (by decide) rfl rfl (h _) hs
  · exact topTup_K F X₀ hl (by decide) (by decide) rfl rfl (h _) hs
  · exact topTup_K F X₀ hl (by decide) (by decide) rfl rfl (h _) hs
  · exact topTup_K F X₀ hl (by decide) (by decide) rfl rfl (h _) hs
  · exact topTup_K F X₀ hl (by decide) (by decide) rfl rfl (h _) hs
  · exact topTup_K F X₀ hl (by decide) (by decide) rfl rfl (h _) hs
  · exact topTup_K F X₀ hl (by decide) (by decide) rfl rfl (h _) hs
  · exact topTup_K F X₀ hl (by decide) (by decide) rfl rfl (h _) hs
  · exact topTup_K F X₀ hl (by decide) (by decide) rfl rfl (h _) hs
  · exact topTup_K F X₀ hl (by decide) (by decide) rfl rfl (h _) hs
  · exact topTup_K F X₀ hl (by decide) (by decide) rfl rfl (h _) hs
  · exact topTup_K F X₀ hl (by decide) (by decide) rfl rfl (h _) hs
end
end
-- lines of the walk
local macro_rules | `(tactic| walk_at "pyReprObj ref") => `(tactic| (k_here; k_dflt (refine' repr3 ?F ?N ?ht ?ha ?hb ?hc ?hg ?hu ?_; (case F => k_asm); (case N => k_asm); (case ht => first | k_mem | walk_at "mine mem"); (case ha => first | assumption | omega); (case hb => first | assumption | omega); (case hc => first | assumption | omega); (case hg => first | exact rfl | with_unfolding_all rfl); (case hu => ktr_units); intro x9 h9 u9 tk9 lx9 F9 N9; (try dsimp only); (try k_fold); (try k_sweep))))
local macro_rules | `(tactic| walk_at "subscriptTail") => `(tactic| (k_here; (with_reducible show wpAny _ _ (subscriptTail _ _ (Value.ref _) (Value.int _ _)) _ _ _); k_dflt (refine' months_item ?F ?X ?l ?h1 ?_ ?hs; (case F => k_asm); (case X => k_asm); (case l => k_is); (case h1 => first | assumption | omega); (case hs => with_unfolding_all rfl); intro tv9)))
section
open PySem.Float64

theorem rep_q : ∀ (K q : Nat), q ≤ 2 ^ 53 → ∃ t, V t = q * 2 ^ K
  | 0, q, h => ⟨0 * 2 ^ 52 + q, V_at h (.inr rfl)⟩
  | K + 1, q, h => by
    by_cases h2 : 2 ^ 52 ≤ q
    · exact ⟨_, V_at h (.inl h2)⟩
    · obtain ⟨t, ht⟩ := rep_q K (2 * q) (by omega)
      refine ⟨t, ?_⟩
      rw [ht, Nat.pow_succ]
      ac_rfl
theorem over_no {K : Nat} (hK : K ≤ 2000) : 2 * (2 ^ 53 * 2 ^ K) < (2 ^ 54 - 1) * 2 ^ 2045 := by
  have h1 : 2 ^ K ≤ 2 ^ 2000 := Nat.pow_le_pow_right (by decide) hK
  have h2 : (2 : Nat) ^ 2045 = 2 ^ 2000 * 2 ^ 45 := by rw [← Nat.pow_add]
  have h3 : 0 < (2 : Nat) ^ 2000 := Nat.two_pow_pos _
  rw [h2]
  generalize (2 : Nat) ^ 2000 = B at *
  omega
theorem near_q {W G : Nat} (hG : 0 < G) : 2 * dist W (G * ((2 * W + G) / (2 * G))) ≤ G := by
  have h1 : 2 * G * ((2 * W + G) / (2 * G)) + (2 * W + G) % (2 * G) = 2 * W + G := Nat.div_add_mod _ _
  have h2 : (2 * W + G) % (2 * G) < 2 * G := Nat.mod_lt _ (by omega)
  have h3 : 2 * G * ((2 * W + G) / (2 * G)) = 2 * (G * ((2 * W + G) / (2 * G))) := Nat.mul_assoc _ _ _
  unfold dist
  omega
theorem right_nat {r : UInt64} {neg : Bool} {W D K : Nat} (h : Right r neg W D) (hD : 0 < D) (hK : K ≤ 2000) (hW : W ≤ D * (2 ^ 53 * 2 ^ K)) :
    ∃ t, r = pack neg t ∧ t < infMag ∧ 2 * dist W (D * V t) ≤ D * 2 ^ K ∧ (∀ q, q ≤ 2 ^ 53 → W = D * (q * 2 ^ K) → D * V t = W) := by
  obtain ⟨t, hr, hle, hov, hn⟩ := h
  have hlt : t < infMag := by
    refine Nat.lt_of_le_of_ne hle fun e => ?_
    have h1 := hov.mp e
    have h2 := over_no hK
    have h3 : D * (2 * (2 ^ 53 * 2 ^ K)) < D * ((2 ^ 54 - 1) * 2 ^ 2045) := Nat.mul_lt_mul_of_pos_left h2 hD
    have h4 : D * (2 * (2 ^ 53 * 2 ^ K)) = 2 * (D * (2 ^ 53 * 2 ^ K)) := by ac_rfl
    omega
  refine ⟨t, hr, hlt, ?_, fun q hq hw => ?_⟩
  rotate_left
  · obtain ⟨t', ht'⟩ := rep_q K q hq
    have h1 := (hn hlt t').1
    rw [ht', ← hw] at h1
    unfold dist at h1
    omega
  have hG : 0 < D * 2 ^ K := Nat.mul_pos hD (Nat.two_pow_pos _)
  have hq : (2 * W + D * 2 ^ K) / (2 * (D * 2 ^ K)) ≤ 2 ^ 53 := by
    rw [← Nat.lt_add_one_iff, Nat.div_lt_iff_lt_mul (by omega)]
    have e : D * (2 ^ 53 * 2 ^ K) = 2 ^ 53 * (D * 2 ^ K) := by ac_rfl
    omega
  obtain ⟨t', ht'⟩ := rep_q K _ hq
  have h1 := (hn hlt t').1
  have h2 := near_q (W := W) hG
  rw [ht', show D * ((2 * W + D * 2 ^ K) / (2 * (D * 2 ^ K)) * 2 ^ K) = D * 2 ^ K * ((2 * W + D * 2 ^ K) / (2 * (D * 2 ^ K))) by ac_rfl] at h1
  omega
/-- a finite double -/
def Fn (x : UInt64) : Prop := ∃ a m e, decode x = .fin a m e
theorem Fn.fin {x : UInt64} (h : Fn x) : isFinite x = true := by
  obtain ⟨a, m, e, h⟩ := h
  unfold isFinite
  rw [h]
theorem right_int {r : UInt64} {neg : Bool} {W D K : Nat} (h : Right r neg W D) (hD : 0 < D) (hK : K ≤ 2000) (hW : W ≤ D * (2 ^ 53 * 2 ^ K)) :
    Fn r ∧ ((neg = false → 0 ≤ val r) ∧ (W = 0 → val r = 0)) ∧ 2 * ((D : Int) * val r - sgn neg W) ≤ ((D * 2 ^ K : Nat) : Int) ∧ -((D * 2 ^ K : Nat) : Int) ≤ 2 * ((D : Int) * val r - sgn neg W) := by
  obtain ⟨t, hr, hlt, hd, hx⟩ := right_nat h hD hK hW
  subst hr
  obtain ⟨m, e, hdec, hv⟩ := decode_pack neg hlt
  rw [val_pack neg hlt]
  refine ⟨⟨_, _, _, hdec⟩, ⟨?_, ?_⟩, ?_⟩
  · rintro rfl
    unfold sgn
    simp
  · rintro rfl
    have h0 := hx 0 (by decide) (by simp)
    have h1 : V t = 0 := by
      rcases Nat.mul_eq_zero.mp h0 with h | h
      · omega
      · exact h
    rw [h1]
    cases neg <;> rfl
  · have e1 : (D : Int) * sgn neg (V t) = sgn neg (D * V t) := by
      cases neg <;> simp [sgn, Int.mul_neg]
    rw [e1]
    unfold dist at hd
    generalize D * V t = X at *
    generalize D * 2 ^ K = G at *
    cases neg <;> simp only [sgn] <;> constructor <;> simp <;> omega
theorem uN_ex : ∃ u : Nat, 2 ^ 1074 = u := ⟨_, rfl⟩
noncomputable def uN : Nat := Classical.choose uN_ex
theorem uN_is : 2 ^ 1074 = uN := Classical.choose_spec uN_ex
theorem uN_of {T : Nat} (h : T = 1074) : uN = 2 ^ T := by rw [h, uN_is]
noncomputable def U : Int := (uN : Int)
theorem uN_pos : 0 < uN := by rw [← uN_is]; exact Nat.two_pow_pos _
theorem U_pos : 0 < U := Int.ofNat_lt.mpr uN_pos
theorem right_u {r : UInt64} {neg : Bool} {W D : Nat} (b : Nat) (hb : b ≤ 53) (h : Right r neg W D) (hD : 0 < D) (hW : (W : Int) ≤ D * (2 ^ b * U)) :
    Fn r ∧ ((neg = false → 0 ≤ val r) ∧ (W = 0 → val r = 0)) ∧ 2 ^ (54 - b) * ((D : Int) * val r - sgn neg W) ≤ D * U ∧ -(D * U) ≤ 2 ^ (54 - b) * ((D : Int) * val r - sgn neg W) := by
  have e2 : uN = 2 ^ (53 - b) * 2 ^ (1021 + b) := by rw [← Nat.pow_add]; exact uN_of (by omega)
  have e1 : (2 : Nat) ^ b * uN = 2 ^ 53 * 2 ^ (1021 + b) := by
    have : (2 : Nat) ^ b * 2 ^ (53 - b) = 2 ^ 53 := by rw [← Nat.pow_add]; congr 1; omega
    rw [e2, ← Nat.mul_assoc, this]
  have e3 : (2 : Int) ^ (54 - b) = ((2 ^ (53 - b) : Nat) : Int) * 2 := by
    have : 54 - b = 53 - b + 1 := by omega
    rw [this, Int.pow_succ]
    simp
  have hW' : W ≤ D * (2 ^ 53 * 2 ^ (1021 + b)) := by
    rw [← e1]
    have e : ((D * (2 ^ b * uN) : Nat) : Int) = D * (2 ^ b * U) := by
      unfold U
      push_cast
      rfl
    rw [← e] at hW
    exact Int.ofNat_le.mp hW
  obtain ⟨f1, f2, f3, f4⟩ := right_int h hD (by omega) hW'
  refine ⟨f1, f2, ?_⟩
  have e4 : (D : Int) * U = ((2 ^ (53 - b) : Nat) : Int) * ((D * 2 ^ (1021 + b) : Nat) : Int) := by
    unfold U
    rw [e2]
    generalize 2 ^ (53 - b) = B
    generalize 2 ^ (1021 + b) = G
    rw [Int.natCast_mul, Int.natCast_mul]
    ac_rfl
  rw [e3, e4]
  generalize (D : Int) * val r - sgn neg W = X at *
  have hp : (0 : Int) ≤ ((2 ^ (53 - b) : Nat) : Int) := Int.natCast_nonneg _
  generalize ((2 ^ (53 - b) : Nat) : Int) = B at *
  constructor
  · rw [Int.mul_assoc]
    exact Int.mul_le_mul_of_nonneg_left f3 hp
  · rw [Int.mul_assoc, ← Int.mul_neg]
    exact Int.mul_le_mul_of_nonneg_left f4 hp
theorem sgn_dec (s : Int) : sgn (decide (s < 0)) s.natAbs = s := by
  unfold sgn
  by_cases h : s < 0
  · simp [h]; omega
  · simp [h]; omega
theorem inf_pos : 0 < infMag := by decide
theorem val_zero (n : Bool) : Fn (zero n) ∧ val (zero n) = 0 := by
  have h := decode_pack n inf_pos
  obtain ⟨m, e, h1, h2⟩ := h
  refine ⟨⟨_, _, _, h1⟩, ?_⟩
  show val (pack n 0) = 0
  rw [val_pack n inf_pos, V_zero]
  cases n <;> rfl
/-- r is near the number X / D, as near as numbers below 2^b lie -/
def Nr (b : Nat) (r : UInt64) (D X : Int) : Prop := 2 ^ (54 - b) * (D * val r - X) ≤ D * U ∧ -(D * U) ≤ 2 ^ (54 - b) * (D * val r - X)
theorem f_sum {r : UInt64} {z : Bool} {s : Int} (b : Nat) (hb : b ≤ 53) (h0 : s = 0 → r = zero z) (h1 : s ≠ 0 → Right r (decide (s < 0)) s.natAbs 1) (hs : s ≤ 2 ^ b * U ∧ -(2 ^ b * U) ≤ s) :
    Fn r ∧ (0 ≤ s → 0 ≤ val r) ∧ (s = 0 → val r = 0) ∧ Nr b r 1 s := by
  by_cases e : s = 0
  · obtain ⟨q1, q2⟩ := val_zero z
    rw [← h0 e] at q1 q2
    refine ⟨q1, fun _ => by omega, fun _ => q2, ?_⟩
    unfold Nr
    rw [q2, e]
    have := U_pos
    rw [Int.mul_zero, Int.sub_zero, Int.mul_zero]
    omega
  · obtain ⟨q1, q2, q3, q4⟩ := right_u b hb (h1 e) (by decide) (by
      have : ((s.natAbs : Nat) : Int) ≤ 2 ^ b * U := by omega
      rw [show ((1 : Nat) : Int) = 1 from rfl, Int.one_mul]; exact this)
    rw [sgn_dec] at q3 q4
    refine ⟨q1, fun h => q2.1 (by simp; omega), fun h => absurd h e, ?_⟩
    exact ⟨q3, q4⟩
theorem f_add {x y : UInt64} (b : Nat) (hb : b ≤ 53) (hx : Fn x) (hy : Fn y) (hs : val x + val y ≤ 2 ^ b * U ∧ -(2 ^ b * U) ≤ val x + val y) :
    Fn (add x y) ∧ (0 ≤ val x + val y → 0 ≤ val (add x y)) ∧ (val x + val y = 0 → val (add x y) = 0) ∧ Nr b (add x y) 1 (val x + val y) := by
  obtain ⟨a, m, e, hx⟩ := hx
  obtain ⟨c, k, f, hy⟩ := hy
  obtain ⟨h0, h1⟩ := add_right hx hy
  exact f_sum b hb h0 h1 hs
theorem f_sub {x y : UInt64} (b : Nat) (hb : b ≤ 53) (hx : Fn x) (hy : Fn y) (hs : val x - val y ≤ 2 ^ b * U ∧ -(2 ^ b * U) ≤ val x - val y) :
    Fn (Float64.sub x y) ∧ (0 ≤ val x - val y → 0 ≤ val (Float64.sub x y)) ∧ (val x - val y = 0 → val (Float64.sub x y) = 0) ∧ Nr b (Float64.sub x y) 1 (val x - val y) := by
  obtain ⟨a, m, e, hx⟩ := hx
  obtain ⟨c, k, f, hy⟩ := hy
  obtain ⟨h0, h1⟩ := sub_right hx hy
  exact f_sum b hb h0 h1 hs
theorem sgn_of_nonneg {x : UInt64} {a : Bool} {m : Nat} {e : Int} (h : decode x = .fin a m e) (h0 : 0 < val x) : a = false := by
  rw [val_eq h] at h0
  cases a
  · rfl
  · unfold sgn at h0
    have : (0 : Int) ≤ ((m * 2 ^ (e + 1074).toNat : Nat) : Int) := Int.natCast_nonneg _
    rw [if_pos rfl] at h0
    omega
theorem sgn_xor (a b : Bool) (m k : Nat) : sgn (a != b) (m * k) = sgn a m * sgn b k := by
  cases a <;> cases b <;> simp [sgn, Int.neg_mul, Int.mul_neg]
theorem sgn_abs {x : UInt64} {a : Bool} {m : Nat} {e : Int} (h : decode x = .fin a m e) : sgn a (val x).natAbs = val x := by
  rw [val_natAbs h, val_eq h]
theorem cancelU {B D X Y : Int} (h : B * (U * D - X * U) ≤ Y * U ∧ -(Y * U) ≤ B * (U * D - X * U)) : B * (D - X) ≤ Y ∧ -Y ≤ B * (D - X) := by
  have e : B * (U * D - X * U) = B * (D - X) * U := by
    rw [Int.mul_comm U D, ← Int.sub_mul, Int.mul_assoc]
  rw [e, ← Int.neg_mul] at h
  exact ⟨Int.le_of_mul_le_mul_right h.1 U_pos, Int.le_of_mul_le_mul_right h.2 U_pos⟩
theorem sgn_scale (a : Bool) (k n : Nat) : sgn a (k * n) = sgn a k * n := by
  cases a <;> simp [sgn, Int.neg_mul]
/-- times a whole number -/
theorem f_mul {x c : UInt64} {n : Nat} (b : Nat) (hb : b ≤ 53) (hx : Fn x) (hc : Fn c) (hv : val c = n * U) (hn : 0 < n) (hs : 0 ≤ val x ∧ val x * n ≤ 2 ^ b * U) :
    Fn (Float64.mul x c) ∧ 0 ≤ val (Float64.mul x c) ∧ Nr b (Float64.mul x c) 1 (val x * n) := by
  obtain ⟨a, m, e, hx⟩ := hx
  obtain ⟨d, k, f, hc⟩ := hc
  have hu := U_pos
  have hcp : 0 < val c := by rw [hv]; exact Int.mul_pos (Int.ofNat_lt.mpr hn) hu
  have hR := mul_right hx hc
  have hd := sgn_of_nonneg hc hcp
  subst hd
  have ea : (a != false) = a := by cases a <;> rfl
  have ev : (val c).natAbs = n * uN := by rw [hv]; exact Int.natAbs_natCast (n * uN)
  rw [ea, ev, uN_is] at hR
  have hW : (((val x).natAbs * (n * uN) : Nat) : Int) = val x * n * U := by
    unfold U
    push_cast
    rw [Int.natAbs_of_nonneg hs.1, Int.mul_assoc]
  obtain ⟨q1, q2, q3⟩ := right_u b hb hR uN_pos (by
    rw [hW, Int.mul_comm (uN : Int)]
    exact Int.mul_le_mul_of_nonneg_right hs.2 (Int.le_of_lt hu))
  refine ⟨q1, ?_, ?_⟩
  · rcases Int.lt_or_eq_of_le hs.1 with h | h
    · exact q2.1 (sgn_of_nonneg hx h)
    · rw [q2.2 (by rw [← h]; simp)]; decide
  have es : sgn a ((val x).natAbs * (n * uN)) = val x * n * U := by
    rw [sgn_scale, sgn_abs hx]
    unfold U
    push_cast
    rw [Int.mul_assoc]
  rw [es] at q3
  have q4 := cancelU (Y := U) q3
  unfold Nr
  rw [Int.one_mul, Int.one_mul]
  exact q4
/-- divided by a whole number -/
theorem f_div {x c : UInt64} {n : Nat} (b : Nat) (hb : b ≤ 53) (hx : Fn x) (hc : Fn c) (hv : val c = n * U) (hn : 0 < n) (hs : 0 ≤ val x ∧ val x ≤ n * (2 ^ b * U)) :
    Fn (Float64.div x c) ∧ 0 ≤ val (Float64.div x c) ∧ (val x = 0 → val (Float64.div x c) = 0) ∧ Nr b (Float64.div x c) n (val x) := by
  obtain ⟨a, m, e, hx⟩ := hx
  obtain ⟨d, k, f, hc⟩ := hc
  have hu := U_pos
  have hcp : 0 < val c := by rw [hv]; exact Int.mul_pos (Int.ofNat_lt.mpr hn) hu
  have hk : k ≠ 0 := by
    rintro rfl
    rw [val_eq hc] at hcp
    unfold sgn at hcp
    simp at hcp
  have hR := div_right hx hc hk
  have hd := sgn_of_nonneg hc hcp
  subst hd
  have ea : (a != false) = a := by cases a <;> rfl
  have ev : (val c).natAbs = n * uN := by rw [hv]; exact Int.natAbs_natCast (n * uN)
  rw [ea, ev, uN_is] at hR
  have hW : (((val x).natAbs * uN : Nat) : Int) = val x * U := by
    unfold U
    push_cast
    rw [Int.natAbs_of_nonneg hs.1]
  obtain ⟨q1, q2, q3⟩ := right_u b hb hR (Nat.mul_pos hn uN_pos) (by
    rw [hW]
    have h2 := Int.mul_le_mul_of_nonneg_right hs.2 (Int.le_of_lt hu)
    have e2 : ((n * uN : Nat) : Int) * (2 ^ b * U) = n * (2 ^ b * U) * U := by
      unfold U
      push_cast
      ac_rfl
    rw [e2]
    exact h2)
  have qz : val x = 0 → val (Float64.div x c) = 0 := fun h => q2.2 (by rw [h]; simp)
  refine ⟨q1, ?_, qz, ?_⟩
  · rcases Int.lt_or_eq_of_le hs.1 with h | h
    · exact q2.1 (sgn_of_nonneg hx h)
    · rw [qz h.symm]; decide
  have es : sgn a ((val x).natAbs * uN) = val x * U := by
    rw [sgn_scale, sgn_abs hx]
    rfl
  have e3 : ((n * uN : Nat) : Int) * val (Float64.div x c) = U * (n * val (Float64.div x c)) := by
    unfold U
    push_cast
    ac_rfl
  have e4 : ((n * uN : Nat) : Int) * U = n * U * U := by
    unfold U
    push_cast
    ac_rfl
  rw [es, e3, e4] at q3
  exact cancelU q3
theorem right_whole {r : UInt64} {neg : Bool} {W n : Nat} (hR : Right r neg W 1) (h : n ≤ 2 ^ 53) (hw : W = n * uN) : Fn r ∧ val r = sgn neg W := by
  obtain ⟨K, hK⟩ : ∃ K : Nat, K = 1074 := ⟨_, rfl⟩
  have eK := uN_of hK
  obtain ⟨t, hr, hlt, _, hd⟩ := right_nat (K := K) hR (by decide) (by omega) (by
    rw [Nat.one_mul, hw, eK]
    exact Nat.mul_le_mul_right _ h)
  have hv := hd n h (by rw [Nat.one_mul, hw, eK])
  rw [Nat.one_mul] at hv
  obtain ⟨m, e, hdec, _⟩ := decode_pack neg hlt
  rw [hr]
  refine ⟨⟨_, _, _, hdec⟩, ?_⟩
  rw [val_pack _ hlt, hv]
/-- a whole number is told just -/
theorem f_int (n : Int) (h : n.natAbs ≤ 2 ^ 53) : Fn (ofInt n) ∧ val (ofInt n) = n * U := by
  have hR := ofInt_right n
  rw [uN_is] at hR
  obtain ⟨q1, q2⟩ := right_whole hR h rfl
  refine ⟨q1, ?_⟩
  rw [q2, sgn_scale, sgn_dec]
  rfl
/-- a sum that is a whole number is told just -/
theorem f_add_whole {x y : UInt64} {n : Nat} (hx : Fn x) (hy : Fn y) (h : n ≤ 2 ^ 53) (hs : val x + val y = n * U) : Fn (add x y) ∧ val (add x y) = n * U := by
  obtain ⟨a, m, e, hx⟩ := hx
  obtain ⟨c, k, f, hy⟩ := hy
  obtain ⟨h0, h1⟩ := add_right hx hy
  by_cases e : val x + val y = 0
  · obtain ⟨q1, q2⟩ := val_zero (a && c)
    rw [← h0 e] at q1 q2
    exact ⟨q1, by rw [q2, ← hs, e]⟩
  · obtain ⟨q1, q2⟩ := right_whole (n := n) (h1 e) h (by rw [hs]; exact Int.natAbs_natCast (n * uN))
    refine ⟨q1, ?_⟩
    rw [q2, sgn_dec, hs]
theorem f_frac (n d : Nat) (b : Nat) (hb : b ≤ 53) (hd : 0 < d) (hs : (n : Int) ≤ d * 2 ^ b) : Fn (ofFrac false n d) ∧ 0 ≤ val (ofFrac false n d) ∧ Nr b (ofFrac false n d) d (n * U) := by
  have hR : Right (ofFrac false n d) false (n * uN) d := ofFrac_right hd (by rw [uN_is]) hd
  obtain ⟨q1, q2, q3⟩ := right_u b hb hR hd (by
    have h2 := Int.mul_le_mul_of_nonneg_right hs (Int.le_of_lt U_pos)
    have e : ((n * uN : Nat) : Int) = n * U := by unfold U; push_cast; rfl
    rw [e, ← Int.mul_assoc]
    exact h2)
  refine ⟨q1, q2.1 rfl, ?_⟩
  have e : sgn false (n * uN) = n * U := by unfold U sgn; simp
  rw [e] at q3
  exact q3
end
section
open PySem.Float64
theorem cast_two_pow (n : Nat) : ((2 ^ n : Nat) : Int) = (2 : Int) ^ n := by simp
theorem tr_near {x : UInt64} (hx : Fn x) (h0 : 0 ≤ val x) : 0 ≤ Flt.toInt truncOf x ∧ Flt.toInt truncOf x * U ≤ val x ∧ val x < (Flt.toInt truncOf x + 1) * U := by
  obtain ⟨a, m, e, hd⟩ := hx
  have he := decode_ge hd
  have hu := U_pos
  have hu' : U = 2 ^ 1074 := by unfold U; rw [← uN_is, cast_two_pow]
  rw [Flt.toInt_fin hd]
  have hf : 0 ≤ floorOf false m e ∧ floorOf false m e * U ≤ ((m * 2 ^ (e + 1074).toNat : Nat) : Int) ∧ ((m * 2 ^ (e + 1074).toNat : Nat) : Int) < (floorOf false m e + 1) * U := by
    have e3 : sgn false m = (m : Int) := by simp [sgn]
    unfold floorOf
    rw [e3]
    by_cases h : e ≥ 0
    · rw [if_pos h]
      have e1 : (e + 1074).toNat = e.toNat + 1074 := by omega
      rw [e1, Nat.pow_add, uN_is]
      have e2 : ((m * (2 ^ e.toNat * uN) : Nat) : Int) = m * 2 ^ e.toNat * U := by
        unfold U
        rw [Int.natCast_mul, Int.natCast_mul, cast_two_pow, Int.mul_assoc]
      rw [e2, Int.add_mul, Int.one_mul]
      refine ⟨?_, Int.le_refl _, by omega⟩
      rw [← cast_two_pow, ← Int.natCast_mul]
      exact Int.natCast_nonneg _
    · rw [if_neg h]
      have e1 : uN = 2 ^ (-e).toNat * 2 ^ (e + 1074).toNat := by rw [← Nat.pow_add]; exact uN_of (by omega)
      have e2 : U = (2 : Int) ^ (-e).toNat * ((2 ^ (e + 1074).toNat : Nat) : Int) := by unfold U; rw [e1, Int.natCast_mul, cast_two_pow]
      have hQ : (0 : Int) < ((2 ^ (e + 1074).toNat : Nat) : Int) := Int.ofNat_lt.mpr (Nat.two_pow_pos _)
      have hP : (0 : Int) < (2 : Int) ^ (-e).toNat := by rw [← cast_two_pow]; exact Int.ofNat_lt.mpr (Nat.two_pow_pos _)
      rw [e2, Int.natCast_mul]
      generalize ((2 ^ (e + 1074).toNat : Nat) : Int) = Q at *
      generalize (2 : Int) ^ (-e).toNat = P at *
      rw [Int.fdiv_eq_ediv_of_nonneg _ (Int.le_of_lt hP)]
      have h1 := Int.ediv_mul_le (m : Int) (Int.ne_of_gt hP)
      have h2 := Int.lt_ediv_add_one_mul_self (m : Int) hP
      refine ⟨Int.ediv_nonneg (Int.natCast_nonneg _) (Int.le_of_lt hP), ?_, ?_⟩
      · rw [← Int.mul_assoc]
        exact Int.mul_le_mul_of_nonneg_right h1 (Int.le_of_lt hQ)
      · rw [← Int.mul_assoc]
        exact Int.mul_lt_mul_of_pos_right h2 hQ
  cases a with
  | false =>
    rw [val_eq hd]
    exact hf
  | true =>
    have hm : m = 0 := by
      rw [val_eq hd] at h0
      unfold sgn at h0
      rw [if_pos rfl] at h0
      have h1 : m * 2 ^ (e + 1074).toNat = 0 := by omega
      rcases Nat.mul_eq_zero.mp h1 with h | h
      · exact h
      · have := Nat.two_pow_pos (e + 1074).toNat
        omega
    subst hm
    have hv : val x = 0 := by rw [val_eq hd]; simp [sgn]
    have ht : truncOf true 0 e = 0 := by
      unfold truncOf ceilOf floorOf
      simp [sgn]
    rw [ht, hv]
    simp
    exact hu
theorem half_near (n d : Nat) (hd : 0 < d) : 2 * ((d : Int) * halfEven n d - n) ≤ d ∧ -(d : Int) ≤ 2 * ((d : Int) * halfEven n d - n) := by
  have h := halfEven_nearest n d hd ((2 * n + d) / (2 * d))
  have h1 := near_q (W := n) hd
  have h2 : 2 * dist n (d * halfEven n d) ≤ d := by omega
  unfold dist at h2
  rw [← Int.natCast_mul]
  generalize d * halfEven n d = X at *
  omega
theorem rd_near {x : UInt64} (hx : Fn x) (h0 : 0 ≤ val x) : 0 ≤ Flt.toInt nearestOf x ∧ 2 * (Flt.toInt nearestOf x * U - val x) ≤ U ∧ -U ≤ 2 * (Flt.toInt nearestOf x * U - val x) := by
  obtain ⟨a, m, e, hd⟩ := hx
  have he := decode_ge hd
  have hu := U_pos
  rw [Flt.toInt_fin hd]
  have hs := shift_one m e 1074 (by omega)
  have hp := shift_pos m 1 e (by decide)
  have hn := half_near (shift m 1 e).1 (shift m 1 e).2 hp
  have hf : nearestOf a m e = sgn a (halfEven (shift m 1 e).1 (shift m 1 e).2) := rfl
  rw [hf]
  rw [uN_is] at hs
  have hz : a = true → m = 0 := by
    rintro rfl
    rw [val_eq hd] at h0
    unfold sgn at h0
    rw [if_pos rfl] at h0
    have h1 : m * 2 ^ (e + 1074).toNat = 0 := by omega
    rcases Nat.mul_eq_zero.mp h1 with h | h
    · exact h
    · have := Nat.two_pow_pos (e + 1074).toNat
      omega
  have ez : ∀ d, halfEven 0 d = 0 := by intro d; unfold halfEven; simp
  cases a with
  | true =>
    have hm := hz rfl
    subst hm
    have hv : val x = 0 := by rw [val_eq hd]; simp [sgn]
    have hsh : (shift 0 1 e).1 = 0 := by unfold shift; split <;> simp
    rw [hsh, ez, hv]
    simp [sgn]
    omega
  | false =>
    rw [val_eq hd]
    have eS : ∀ k : Nat, sgn false k = (k : Int) := fun k => by simp [sgn]
    rw [eS, eS]
    have hs' : ((shift m 1 e).1 : Int) * U = ((m * 2 ^ (e + 1074).toNat : Nat) : Int) * (shift m 1 e).2 := by
      unfold U
      rw [← Int.natCast_mul, ← Int.natCast_mul]
      exact congrArg _ hs
    generalize ((m * 2 ^ (e + 1074).toNat : Nat) : Int) = v at *
    generalize halfEven (shift m 1 e).1 (shift m 1 e).2 = q at *
    generalize (shift m 1 e).1 = p at *
    generalize (shift m 1 e).2 = d at *
    refine ⟨Int.natCast_nonneg _, ?_, ?_⟩
    · have h1 := Int.mul_le_mul_of_nonneg_right hn.1 (Int.le_of_lt hu)
      have e1 : 2 * ((d : Int) * q - p) * U = d * (2 * (q * U - v)) := by
        have : (d : Int) * (2 * (q * U - v)) = 2 * (d * q * U - v * d) := by rw [Int.mul_left_comm, Int.mul_sub, Int.mul_comm (d : Int) v, Int.mul_assoc]
        rw [this, ← hs', ← Int.sub_mul, Int.mul_assoc]
      rw [e1] at h1
      exact Int.le_of_mul_le_mul_left h1 (Int.ofNat_lt.mpr hp)
    · have h1 := Int.mul_le_mul_of_nonneg_right hn.2 (Int.le_of_lt hu)
      have e1 : 2 * ((d : Int) * q - p) * U = d * (2 * (q * U - v)) := by
        have : (d : Int) * (2 * (q * U - v)) = 2 * (d * q * U - v * d) := by rw [Int.mul_left_comm, Int.mul_sub, Int.mul_comm (d : Int) v, Int.mul_assoc]
        rw [this, ← hs', ← Int.sub_mul, Int.mul_assoc]
      rw [e1, Int.neg_mul, ← Int.mul_neg] at h1
      exact Int.le_of_mul_le_mul_left h1 (Int.ofNat_lt.mpr hp)
/-- two whole numbers less than one apart are one -/
theorem same_of {a b : Int} (h1 : a * U < (b + 1) * U) (h2 : b * U < (a + 1) * U) : a = b := by
  have q1 := Int.lt_of_mul_lt_mul_right h1 (Int.le_of_lt U_pos)
  have q2 := Int.lt_of_mul_lt_mul_right h2 (Int.le_of_lt U_pos)
  omega
theorem le_of_U {a b : Int} (h1 : a * U < (b + 1) * U) : a ≤ b := by
  have q1 := Int.lt_of_mul_lt_mul_right h1 (Int.le_of_lt U_pos)
  omega
theorem c60 : (4633641066610819072 : UInt64) = ofInt 60 := by decide +kernel
theorem c24 : (4627448617123184640 : UInt64) = ofInt 24 := by decide +kernel
theorem cDay : (4680673776000565248 : UInt64) = ofInt 86400 := by decide +kernel
theorem c0 : (0 : UInt64) = ofInt 0 := by decide +kernel
theorem fn_60 : Fn 4633641066610819072 ∧ val 4633641066610819072 = (60 : Nat) * U := by rw [c60]; exact f_int 60 (by decide)
theorem fn_24 : Fn 4627448617123184640 ∧ val 4627448617123184640 = (24 : Nat) * U := by rw [c24]; exact f_int 24 (by decide)
theorem fn_day : Fn 4680673776000565248 ∧ val 4680673776000565248 = (86400 : Nat) * U := by rw [cDay]; exact f_int 86400 (by decide)
theorem fn_0 : Fn 0 ∧ val 0 = 0 := by
  have h := f_int 0 (by decide)
  rw [← c0] at h
  exact ⟨h.1, by rw [h.2]; simp⟩
end
section
open PySem.Float64
theorem two_pows : (2 : Int) ^ 0 = 1 ∧ (2 : Int) ^ 5 = 32 ∧ (2 : Int) ^ 6 = 64 ∧ (2 : Int) ^ 17 = 131072 ∧ (2 : Int) ^ 22 = 4194304 ∧ (2 : Int) ^ 54 = 18014398509481984 ∧ (2 : Int) ^ 48 = 281474976710656 ∧ (2 : Int) ^ 49 = 562949953421312 ∧ (2 : Int) ^ 37 = 137438953472 ∧ (2 : Int) ^ 32 = 4294967296 := by decide
/-- a clock's number -/
def tClock (h m s : Int) : UInt64 := div (add (div (add (div (ofInt s) 4633641066610819072) (ofInt m)) 4633641066610819072) (ofInt h)) 4627448617123184640
theorem clock_near {h m s : Int} (h1 : 0 ≤ h ∧ h < 24) (m1 : 0 ≤ m ∧ m < 60) (s1 : 0 ≤ s ∧ s < 60) :
    Fn (tClock h m s) ∧ 0 ≤ val (tClock h m s) ∧ (3600 * h + 60 * m + s = 0 → val (tClock h m s) = 0) ∧
      34359738368 * (86400 * val (tClock h m s) - (3600 * h + 60 * m + s) * U) ≤ U ∧ -U ≤ 34359738368 * (86400 * val (tClock h m s) - (3600 * h + 60 * m + s) * U) := by
  obtain ⟨p0, p5, p6, p17, p22, p54, p48, p49, p37, p32⟩ := two_pows
  have hu := U_pos
  obtain ⟨i1, i2⟩ := f_int s (by omega)
  obtain ⟨j1, j2⟩ := f_int m (by omega)
  obtain ⟨k1, k2⟩ := f_int h (by omega)
  have sU := Int.mul_le_mul_of_nonneg_right (show s ≤ 59 by omega) (Int.le_of_lt hu)
  have mU := Int.mul_le_mul_of_nonneg_right (show m ≤ 59 by omega) (Int.le_of_lt hu)
  have hU := Int.mul_le_mul_of_nonneg_right (show h ≤ 23 by omega) (Int.le_of_lt hu)
  have sU0 := Int.mul_nonneg s1.1 (Int.le_of_lt hu)
  have mU0 := Int.mul_nonneg m1.1 (Int.le_of_lt hu)
  have hU0 := Int.mul_nonneg h1.1 (Int.le_of_lt hu)
  have eS : (3600 * h + 60 * m + s) * U = 3600 * (h * U) + 60 * (m * U) + s * U := by rw [Int.add_mul, Int.add_mul, Int.mul_assoc, Int.mul_assoc]
  rw [eS]
  unfold tClock
  obtain ⟨a1, a2, a3, a4⟩ := f_div 0 (by decide) i1 fn_60.1 fn_60.2 (by decide) (by rw [i2, p0]; omega)
  rw [i2] at a3 a4
  unfold Nr at a4
  have z1 : s = 0 → val (div (ofInt s) 4633641066610819072) = 0 := fun e => a3 (by rw [e]; simp)
  generalize div (ofInt s) 4633641066610819072 = x1 at *
  simp only [show 54 - 0 = 54 from rfl, p54] at a4
  obtain ⟨b1, b2, b3, b4⟩ := f_add 6 (by decide) a1 j1 (by rw [j2, p6]; omega)
  rw [j2] at b2 b3 b4
  unfold Nr at b4
  have z2 : s = 0 → m = 0 → val (add x1 (ofInt m)) = 0 := fun e e2 => b3 (by rw [z1 e, e2]; simp)
  generalize add x1 (ofInt m) = x2 at *
  simp only [show 54 - 6 = 48 from rfl, p48] at b4
  obtain ⟨c1, c2, c3, c4⟩ := f_div 0 (by decide) b1 fn_60.1 fn_60.2 (by decide) (by rw [p0]; omega)
  unfold Nr at c4
  have z3 : s = 0 → m = 0 → val (div x2 4633641066610819072) = 0 := fun e e2 => c3 (z2 e e2)
  generalize div x2 4633641066610819072 = x3 at *
  simp only [show 54 - 0 = 54 from rfl, p54] at c4
  obtain ⟨d1, d2, d3, d4⟩ := f_add 5 (by decide) c1 k1 (by rw [k2, p5]; omega)
  rw [k2] at d2 d3 d4
  unfold Nr at d4
  have z4 : s = 0 → m = 0 → h = 0 → val (add x3 (ofInt h)) = 0 := fun e e2 e3 => d3 (by rw [z3 e e2, e3]; simp)
  generalize add x3 (ofInt h) = x4 at *
  simp only [show 54 - 5 = 49 from rfl, p49] at d4
  obtain ⟨e1, e2, e3, e4⟩ := f_div 0 (by decide) d1 fn_24.1 fn_24.2 (by decide) (by rw [p0]; omega)
  unfold Nr at e4
  have z5 : s = 0 → m = 0 → h = 0 → val (div x4 4627448617123184640) = 0 := fun e e2 e5 => e3 (z4 e e2 e5)
  generalize div x4 4627448617123184640 = x5 at *
  simp only [show 54 - 0 = 54 from rfl, p54] at e4
  refine ⟨e1, e2, fun e => z5 (by omega) (by omega) (by omega), ?_, ?_⟩ <;> omega
end
section
/-- a float, nothing made -/
def FltV (x : UInt64) (v : Value) (tl : List (Addr × Obj)) : Prop := tl = [] ∧ ∃ t, v = .float x t
theorem FltV.mk {x y : UInt64} {t : Tok} (h : y = x) : FltV x (.float y t) [] := ⟨rfl, t, by rw [h]⟩
def pLp (y : Int) : Int := if y % 4 = 0 ∧ (y % 100 ≠ 0 ∨ y % 400 = 0) then 1 else 0
/-- like ConL, from a frame where nothing is being shown -/
def ConG (lv : Nat) (f : Addr) (need : List (Addr × Obj) → Prop) (vs : List Value) (R : Value → List (Addr × Obj) → Prop) : Prop :=
  ∀ (w : World) (mean : ExcName → Option Value) (mg mb : Str → Option Value)
    (dp un : Nat) (cn : Str) (cs : Scope) (a : Addr) (ccd : Value) (A₀ : Around)
    (h₀ : Heap) (L : Addr) (m : Str → Option Value) (news : List (Addr × Obj)) (s : Shared) (Q E : Value → Shared → Prop),
    Below A₀ h₀ [] h₀ → Fr h₀ L s.heap m → (hd.heap_39 w.params).In h₀ → News h₀ L s.heap news →
    Top hd.view_39 (looseW hd.view_39 [Str.ofString "_law_edges"]) mean mg mb h₀ → cs.kind = .function → need news →
    dp + lv < recursionLimit → un + (8 * lv + 80) < cLine →
    (∀ v tl h' tk', R v tl → Fr h₀ L h' m → News h₀ L h' (tl ++ news) → Q v { s with heap := h', toks := tk' }) →
    wpAny (model PySem.Challenge.rw_fe0353_01.row.prog w) (ktrTop dp un (some []) cn cs L a ccd [] []) (PySem.call (.ref f) vs) Q E s
theorem conG_use {lv : Nat} {f : Addr} {need : List (Addr × Obj) → Prop} {vs : List Value} {R : Value → List (Addr × Obj) → Prop} (C : ConG lv f need vs R)
    {w : World} {mean : ExcName → Option Value} {mg mb : Str → Option Value}
    {dp un : Nat} {cn : Str} {cs : Scope} {a : Addr} {ccd : Value} {A₀ : Around}
    {h₀ : Heap} {L : Addr} {m : Str → Option Value} {news : List (Addr × Obj)} {s : Shared} {Q E : Value → Shared → Prop}
    (B : Below A₀ h₀ [] h₀) (F : Fr h₀ L s.heap m) (X : (hd.heap_39 w.params).In h₀) (N : News h₀ L s.heap news)
    (T : Top hd.view_39 (looseW hd.view_39 [Str.ofString "_law_edges"]) mean mg mb h₀) (hk : cs.kind = .function) (hn : need news)
    (hd : dp + lv < recursionLimit) (hu : un + (8 * lv + 80) < cLine)
    (ret : ∀ v tl h' tk', R v tl → Fr h₀ L h' m → News h₀ L h' (tl ++ news) → Q v { s with heap := h', toks := tk' }) :
    wpAny (model PySem.Challenge.rw_fe0353_01.row.prog w) (ktrTop dp un (some []) cn cs L a ccd [] []) (PySem.call (.ref f) vs) Q E s :=
  C _ _ _ _ _ _ _ _ _ _ _ _ _ _ _ _ _ _ B F X N T hk hn hd hu ret
/-- the three ints of a date lie there -/
abbrev HasT3 (p : Addr) (y m d : Int) (u1 u2 u3 : Tok) (news : List (Addr × Obj)) : Prop := (p, ({ cls := .type "tuple", data := .seq #[.int y u1, .int m u2, .int d u3] } : Obj)) ∈ news
abbrev HasT6 (p : Addr) (y m d h i s : Int) (u1 u2 u3 u4 u5 u6 : Tok) (news : List (Addr × Obj)) : Prop := (p, ({ cls := .type "tuple", data := .seq #[.int y u1, .int m u2, .int d u3, .int h u4, .int i u5, .int s u6] } : Obj)) ∈ news
theorem lp_one {y : Int} (h1 : y.fmod 4 = 0) (h2 : y.fmod 100 ≠ 0 ∨ y.fmod 400 = 0) : 1 = pLp y := by
  rw [Int.fmod_eq_emod_of_nonneg _ (by decide)] at h1 h2
  rw [Int.fmod_eq_emod_of_nonneg _ (by decide)] at h2
  rw [pLp, if_pos ⟨h1, h2⟩]
theorem lp_zero {y : Int} (h : ¬ (y.fmod 4 = 0 ∧ (y.fmod 100 ≠ 0 ∨ y.fmod 400 = 0))) : 0 = pLp y := by
  rw [Int.fmod_eq_emod_of_nonneg _ (by decide), Int.fmod_eq_emod_of_nonneg _ (by decide), Int.fmod_eq_emod_of_nonneg _ (by decide)] at h
  rw [pLp, if_neg h]
/-- the text's own count of a date (as it is walked), for a month of January or February, and for another -/
def kJa (y mo d mode : Int) : Int := (1461 * (y + 4716 - 1)).fdiv 4 + (979 * (mo + 9) + 16).fdiv 32 + d - 1364 - ((y + 4716 - 1 + 184).fdiv 100 * 3).fdiv 4 - pJd mode
def kJb (y mo d mode : Int) : Int := (1461 * (y + 4716)).fdiv 4 + (979 * (mo - 3) + 16).fdiv 32 + d - 1364 - ((y + 4716 + 184).fdiv 100 * 3).fdiv 4 - pJd mode
theorem mon_long {y mo d : Int} (hmo : 1 ≤ mo ∧ mo ≤ 12) : d ≤ pLong y mo ↔ (d ≤ kMon mo ∨ (d = 29 ∧ mo = 2 ∧ pLp y ≠ 0)) := by
  by_cases h : mo = 2
  · subst h
    rw [pLong_feb]
    unfold pLp
    have e : kMon 2 = 28 := rfl
    rw [e]
    split <;> omega
  · rw [pLong_tab' y mo h]
    unfold kMon
    constructor
    · exact fun x => .inl x
    · rintro (x | x)
      · exact x
      · exact absurd x.2.1 h
theorem k_count {y mo d mode : Int} (hm : mode = 0 ∨ mode = 1) (hy : 1900 ≤ y ∧ y ≤ 9999) (hmo : 1 ≤ mo ∧ mo ≤ 12) (hd1 : 1 ≤ d) (hd2 : d ≤ pLong y mo) :
    (mo ≤ 2 → kJa y mo d mode = pCount y mo d - pBase mode) ∧ (2 < mo → kJb y mo d mode = pCount y mo d - pBase mode) := by
  have D : DateIs (pCount y mo d) y mo d := ⟨hmo.1, hmo.2, hd1, hd2, rfl⟩
  have h := jd_eq (by omega) D
  have hb := jd_base hm
  unfold bJd at h
  constructor
  · intro h2
    simp only [if_pos h2] at h
    unfold kJa
    rw [Int.fdiv_eq_ediv_of_nonneg _ (by decide), Int.fdiv_eq_ediv_of_nonneg _ (by decide), Int.fdiv_eq_ediv_of_nonneg _ (by decide), Int.fdiv_eq_ediv_of_nonneg _ (by decide)]
    omega
  · intro h2
    have h2' : ¬ mo ≤ 2 := by omega
    simp only [if_neg h2'] at h
    unfold kJb
    rw [Int.fdiv_eq_ediv_of_nonneg _ (by decide), Int.fdiv_eq_ediv_of_nonneg _ (by decide), Int.fdiv_eq_ediv_of_nonneg _ (by decide), Int.fdiv_eq_ediv_of_nonneg _ (by decide)]
    omega
theorem float_small {prog : Program} {w : World} {A : Around} {E : Value → Shared → Prop} {s : Shared} {n : Int} {u : Tok} {Q : Value → Shared → Prop} (hn : -10000000 ≤ n ∧ n ≤ 10000000)
    (h : Q (.float (Float64.ofInt n) s.toks) { s with toks := s.toks + 1 }) : wpAny (model prog w) A (PySem.call (.type "float") [.int n u]) Q E s := by
  refine call_float_int_fits ?_ h
  have : n.natAbs < 2 ^ 24 := by omega
  exact Nat.lt_of_lt_of_le this (Nat.pow_le_pow_right (by decide) (by decide))
end
-- lines of the walk
local macro_rules | `(tactic| walk_at "call type:float") => `(tactic| (k_here; k_dflt (refine float_small (by first | assumption | omega) ?_; try dsimp only)))
local macro_rules | `(tactic| walk_at "ite") => `(tactic| (k_here; k_dflt (first | (refine ite_neg (by (try simp only [beq_iff_eq, bne_iff_ne, decide_eq_true_eq, Bool.not_eq_true', Bool.not_eq_true, beq_eq_false_iff_ne, decide_eq_false_iff_not]); omega) ?_) | (refine ite_pos (by (try simp only [beq_iff_eq, bne_iff_ne, decide_eq_true_eq, Bool.not_eq_true', Bool.not_eq_true, beq_eq_false_iff_ne, decide_eq_false_iff_not]); omega) ?_))))
/-- the walk begins as in a file of its own -/
theorem freshC7 : True := by w_top off; exact True.intro
set_option maxRecDepth 100000 in
set_option maxHeartbeats 8000000 in
theorem c_leap (y : Int) (ty : Tok) : Con 1 103 anyNews [.int y ty] (IntV (pLp y)) := by
  unfold Con
  k_fill
  intro w mean mg mb dp un gd cn cs a ccd cl outer A₀ base h₀ L m news s Q E B F X N T hk hneed hd hu hret
  walk_at "mine enter"
  k_steps
  all_goals (refine hret _ [] _ _ (IntV.mk ?_) (by k_asm) (by walk_at "mine news"))
  all_goals first
    | exact lp_one (by assumption) (.inl (by assumption))
    | exact lp_one (by assumption) (.inr (by assumption))
    | (refine lp_zero ?_; simp [*]; done)

local macro_rules | `(tactic| walk_at "call ref") => `(tactic| (k_here; k_dflt (refine' con_use (c_leap _ _) ?k1 ?k2 ?k3 ?k4 ?k5 ?kK ?kn ?kd ?ku ?_; (case k1 => k_asm); (case k2 => k_asm); (case k3 => k_asm); (case k4 => k_asm); (case k5 => k_asm); (case kK => first | assumption | exact rfl); (case kd => ktr_room); (case ku => ktr_units); (case kn => first | trivial | k_mem | walk_at "mine mem");  intro v9 tl9 h9 tk9 r9 F9 N9; obtain ⟨e9, t9, f9⟩ := r9; subst e9 f9; (try dsimp only [List.nil_append, List.cons_append] at N9); (try dsimp only); (try k_fold); (try k_sweep))))

set_option maxRecDepth 100000 in
set_option maxHeartbeats 8000000 in
theorem c_fromt (p : Addr) (h i sc : Int) (u1 u2 u3 : Tok) (h1 : 0 ≤ h ∧ h < 24) (i1 : 0 ≤ i ∧ i < 60) (s1 : 0 ≤ sc ∧ sc < 60) :
    Con 2 118 (HasT3 p h i sc u1 u2 u3) [.ref p] (FltV (tClock h i sc)) := by
  unfold Con HasT3
  k_fill
  intro w mean mg mb dp un gd cn cs a ccd cl outer A₀ base h₀ L m news s Q E B F X N T hk hneed hd hu hret
  walk_at "mine enter"
  k_steps
  exact hret _ [] _ _ (FltV.mk rfl) (by k_asm) (by walk_at "mine news")

local macro_rules | `(tactic| walk_at "call ref") => `(tactic| (k_here; k_dflt (refine' con_use (c_fromt _ _ _ _ _ _ _ ?kp ?kq ?kr) ?k1 ?k2 ?k3 ?k4 ?k5 ?kK ?kn ?kd ?ku ?_; (case k1 => k_asm); (case k2 => k_asm); (case k3 => k_asm); (case k4 => k_asm); (case k5 => k_asm); (case kK => first | assumption | exact rfl); (case kd => ktr_room); (case ku => ktr_units); (case kn => first | trivial | k_mem | walk_at "mine mem"); (case kp => first | assumption | omega); (case kq => first | assumption | omega); (case kr => first | assumption | omega); intro v9 tl9 h9 tk9 r9 F9 N9; obtain ⟨e9, t9, f9⟩ := r9; subst e9 f9; (try dsimp only [List.nil_append, List.cons_append] at N9); (try dsimp only); (try k_fold); (try k_sweep))))

set_option maxRecDepth 100000 in
set_option maxHeartbeats 8000000 in
theorem c_fromd' (p : Addr) (y mo d mode c : Int) (u1 u2 u3 t2 : Tok) (hm : mode = 0 ∨ mode = 1) (hy : 1900 ≤ y ∧ y ≤ 9999) (hmo : 1 ≤ mo ∧ mo ≤ 12) (hd1 : 1 ≤ d) (hd2 : d ≤ kMon mo ∨ (d = 29 ∧ mo = 2 ∧ pLp y ≠ 0))
    (hc1 : mo ≤ 2 → (1461 * (y + 4716 - 1)).fdiv 4 + (979 * (mo + 9) + 16).fdiv 32 + d - 1364 - ((y + 4716 - 1 + 184).fdiv 100 * 3).fdiv 4 - pJd mode = c)
    (hc2 : 2 < mo → (1461 * (y + 4716)).fdiv 4 + (979 * (mo - 3) + 16).fdiv 32 + d - 1364 - ((y + 4716 + 184).fdiv 100 * 3).fdiv 4 - pJd mode = c)
    (hc0 : 0 < c ∧ c < 3000000) (ha : c < 61 → mode = 1) :
    Con 2 111 (HasT3 p y mo d u1 u2 u3) [.ref p, .int mode t2] (FltV (Float64.ofInt c)) := by
  have hin := mode_in hm
  unfold Con HasT3
  k_fill
  intro w mean mg mb dp un gd cn cs a ccd cl outer A₀ base h₀ L m news s Q E B F X N T hk hneed hd hu hret
  walk_at "mine enter"
  k_steps
  all_goals (refine hret _ [] _ _ (FltV.mk (congrArg Float64.ofInt ?_)) (by k_asm) (by walk_at "mine news"))
  all_goals omega
theorem c_fromd (p : Addr) (y mo d mode : Int) (u1 u2 u3 t2 : Tok) (hm : mode = 0 ∨ mode = 1) (hy : 1900 ≤ y ∧ y ≤ 9999) (hmo : 1 ≤ mo ∧ mo ≤ 12) (hd1 : 1 ≤ d) (hd2 : d ≤ pLong y mo)
    (hc : 0 < pCount y mo d - pBase mode ∧ pCount y mo d - pBase mode < 3000000) (ha : pCount y mo d - pBase mode < 61 → mode = 1) :
    Con 2 111 (HasT3 p y mo d u1 u2 u3) [.ref p, .int mode t2] (FltV (Float64.ofInt (pCount y mo d - pBase mode))) := by
  obtain ⟨q1, q2⟩ := k_count hm hy hmo hd1 hd2
  exact c_fromd' p y mo d mode _ u1 u2 u3 t2 hm hy hmo hd1 ((mon_long hmo).mp hd2) q1 q2 hc ha
set_option maxRecDepth 100000 in
set_option maxHeartbeats 8000000 in
theorem c_fromd0 (p : Addr) (mode : Int) (u1 u2 u3 t2 : Tok) (hm : mode = 0 ∨ mode = 1) :
    Con 2 111 (HasT3 p 0 0 0 u1 u2 u3) [.ref p, .int mode t2] (FltV 0) := by
  have hin := mode_in hm
  unfold Con HasT3
  k_fill
  intro w mean mg mb dp un gd cn cs a ccd cl outer A₀ base h₀ L m news s Q E B F X N T hk hneed hd hu hret
  walk_at "mine enter"
  k_steps
  exact hret _ [] _ _ (FltV.mk rfl) (by k_asm) (by walk_at "mine news")
/-- the walk begins as in a file of its own -/
theorem freshC8 : True := by w_top off; exact True.intro
local macro_rules | `(tactic| walk_at "call ref") => `(tactic| (k_here; k_dflt (refine' con_use (c_fromd0 _ _ _ _ _ _ ?kp) ?k1 ?k2 ?k3 ?k4 ?k5 ?kK ?kn ?kd ?ku ?_; (case k1 => k_asm); (case k2 => k_asm); (case k3 => k_asm); (case k4 => k_asm); (case k5 => k_asm); (case kK => first | assumption | exact rfl); (case kd => ktr_room); (case ku => ktr_units); (case kn => first | trivial | k_mem | walk_at "mine mem"); (case kp => first | assumption | omega); intro v9 tl9 h9 tk9 r9 F9 N9; obtain ⟨e9, t9, f9⟩ := r9; subst e9 f9; (try dsimp only [List.nil_append, List.cons_append] at N9); (try dsimp only); (try k_fold); (try k_sweep))))
local macro_rules | `(tactic| walk_at "call ref") => `(tactic| (k_here; k_dflt (refine' con_use (c_fromd _ _ _ _ _ _ _ _ _ ?kp ?kq ?kr ?ks ?kt ?kv ?kw) ?k1 ?k2 ?k3 ?k4 ?k5 ?kK ?kn ?kd ?ku ?_; (case k1 => k_asm); (case k2 => k_asm); (case k3 => k_asm); (case k4 => k_asm); (case k5 => k_asm); (case kK => first | assumption | exact rfl); (case kd => ktr_room); (case ku => ktr_units); (case kn => first | trivial | k_mem | walk_at "mine mem"); (case kp => assumption); (case kq => assumption); (case kr => assumption); (case ks => first | assumption | omega); (case kt => assumption); (case kv => assumption); (case kw => assumption); intro v9 tl9 h9 tk9 r9 F9 N9; obtain ⟨e9, t9, f9⟩ := r9; subst e9 f9; (try dsimp only [List.nil_append, List.cons_append] at N9); (try dsimp only); (try k_fold); (try k_sweep))))
set_option maxRecDepth 100000 in
set_option maxHeartbeats 8000000 in
theorem c_wr (p : Addr) (y mo d h i sc mode : Int) (u1 u2 u3 u4 u5 u6 t2 : Tok) (hm : mode = 0 ∨ mode = 1) (hy : 1900 ≤ y ∧ y ≤ 9999) (hmo : 1 ≤ mo ∧ mo ≤ 12) (hd1 : 1 ≤ d) (hd2 : d ≤ pLong y mo)
    (hc : 0 < pCount y mo d - pBase mode ∧ pCount y mo d - pBase mode < 3000000) (ha : pCount y mo d - pBase mode < 61 → mode = 1)
    (h1 : 0 ≤ h ∧ h < 24) (i1 : 0 ≤ i ∧ i < 60) (s1 : 0 ≤ sc ∧ sc < 60) :
    ConG 6 187 (HasT6 p y mo d h i sc u1 u2 u3 u4 u5 u6) [.ref p, .int mode t2] (FltV (Float64.add (Float64.ofInt (pCount y mo d - pBase mode)) (tClock h i sc))) := by
  unfold ConG HasT6
  k_fill
  intro w mean mg mb dp un cn cs a ccd A₀ h₀ L m news s Q E B F X N T hk hneed hd hu hret
  walk_at "mine enterS"
  k_steps
  exact hret _ [] _ _ (FltV.mk rfl) (by k_asm) (by walk_at "mine news")
set_option maxRecDepth 100000 in
set_option maxHeartbeats 8000000 in
theorem c_wz (p : Addr) (h i sc mode : Int) (u1 u2 u3 u4 u5 u6 t2 : Tok) (hm : mode = 0 ∨ mode = 1) (h1 : 0 ≤ h ∧ h < 24) (i1 : 0 ≤ i ∧ i < 60) (s1 : 0 ≤ sc ∧ sc < 60) :
    ConG 6 187 (HasT6 p 0 0 0 h i sc u1 u2 u3 u4 u5 u6) [.ref p, .int mode t2] (FltV (Float64.add 0 (tClock h i sc))) := by
  unfold ConG HasT6
  k_fill
  intro w mean mg mb dp un cn cs a ccd A₀ h₀ L m news s Q E B F X N T hk hneed hd hu hret
  walk_at "mine enterS"
  k_steps
  exact hret _ [] _ _ (FltV.mk rfl) (by k_asm) (by walk_at "mine news")
set_option maxRecDepth 100000 in
set_option maxHeartbeats 8000000 in
theorem c_wy (p : Addr) (y mo d h i sc mode : Int) (u1 u2 u3 u4 u5 u6 t2 : Tok) (hm : mode = 0 ∨ mode = 1)
    (b1 : -200000 ≤ y ∧ y ≤ 200000) (b2 : -200000 ≤ mo ∧ mo ≤ 200000) (b3 : -200000 ≤ d ∧ d ≤ 200000) (b4 : -200000 ≤ h ∧ h ≤ 200000) (b5 : -200000 ≤ i ∧ i ≤ 200000) (b6 : -200000 ≤ sc ∧ sc ≤ 200000)
    (h1 : 1 ≤ mo) (hy : y < 1900 ∨ 9999 < y) :
    ConG 6 187 (HasT6 p y mo d h i sc u1 u2 u3 u4 u5 u6) [.ref p, .int mode t2] (TelV (.text (Str.ofString "tuple"))) := by
  have hin := mode_in hm
  unfold ConG HasT6
  k_fill
  intro w mean mg mb dp un cn cs a ccd A₀ h₀ L m news s Q E B F X N T hk hneed hd hu hret
  walk_at "mine enterS"
  k_steps
  all_goals exact hret _ [] _ _ (telv_text rfl) (by k_asm) (by walk_at "mine news")
set_option maxRecDepth 100000 in
set_option maxHeartbeats 8000000 in
theorem c_wm (p : Addr) (y mo d h i sc mode : Int) (u1 u2 u3 u4 u5 u6 t2 : Tok) (hm : mode = 0 ∨ mode = 1)
    (b1 : -200000 ≤ y ∧ y ≤ 200000) (b2 : -200000 ≤ mo ∧ mo ≤ 200000) (b3 : -200000 ≤ d ∧ d ≤ 200000) (b4 : -200000 ≤ h ∧ h ≤ 200000) (b5 : -200000 ≤ i ∧ i ≤ 200000) (b6 : -200000 ≤ sc ∧ sc ≤ 200000)
    (hy : 1900 ≤ y ∧ y ≤ 9999) (h1 : mo < 1 ∨ 12 < mo) :
    ConG 6 187 (HasT6 p y mo d h i sc u1 u2 u3 u4 u5 u6) [.ref p, .int mode t2] (TelV (.text (Str.ofString "tuple"))) := by
  have hin := mode_in hm
  unfold ConG HasT6
  k_fill
  intro w mean mg mb dp un cn cs a ccd A₀ h₀ L m news s Q E B F X N T hk hneed hd hu hret
  walk_at "mine enterS"
  k_steps
  all_goals exact hret _ [] _ _ (telv_text rfl) (by k_asm) (by walk_at "mine news")
set_option maxRecDepth 100000 in
set_option maxHeartbeats 8000000 in
theorem c_wmode (p : Addr) (y mo d h i sc mode : Int) (u1 u2 u3 u4 u5 u6 t2 : Tok)
    (b1 : -200000 ≤ y ∧ y ≤ 200000) (b2 : -200000 ≤ mo ∧ mo ≤ 200000) (b3 : -200000 ≤ d ∧ d ≤ 200000) (b4 : -200000 ≤ h ∧ h ≤ 200000) (b5 : -200000 ≤ i ∧ i ≤ 200000) (b6 : -200000 ≤ sc ∧ sc ≤ 200000)
    (hm : mode ≠ 0 ∧ mode ≠ 1) :
    ConG 6 187 (HasT6 p y mo d h i sc u1 u2 u3 u4 u5 u6) [.ref p, .int mode t2] (TelV (.text (Str.ofString "mode"))) := by
  have hin : ([0, 1].any fun x => x == mode) = false := by simp [Ne.symm hm.1, Ne.symm hm.2]
  unfold ConG HasT6
  k_fill
  intro w mean mg mb dp un cn cs a ccd A₀ h₀ L m news s Q E B F X N T hk hneed hd hu hret
  walk_at "mine enterS"
  k_steps
  all_goals exact hret _ [] _ _ (telv_text rfl) (by k_asm) (by walk_at "mine news")
/-- the walk begins as in a file of its own -/
theorem freshC9 : True := by w_top off; exact True.intro
set_option maxRecDepth 100000 in
set_option maxHeartbeats 8000000 in
theorem c_wd' (p : Addr) (y mo d h i sc mode : Int) (u1 u2 u3 u4 u5 u6 t2 : Tok) (hm : mode = 0 ∨ mode = 1)
    (b1 : -200000 ≤ y ∧ y ≤ 200000) (b2 : -200000 ≤ mo ∧ mo ≤ 200000) (b3 : -200000 ≤ d ∧ d ≤ 200000) (b4 : -200000 ≤ h ∧ h ≤ 200000) (b5 : -200000 ≤ i ∧ i ≤ 200000) (b6 : -200000 ≤ sc ∧ sc ≤ 200000)
    (hy : 1900 ≤ y ∧ y ≤ 9999) (hmo : 1 ≤ mo ∧ mo ≤ 12) (hd1 : d < 1 ∨ (kMon mo < d ∧ (d = 29 → mo = 2 → pLp y = 0))) :
    ConG 6 187 (HasT6 p y mo d h i sc u1 u2 u3 u4 u5 u6) [.ref p, .int mode t2] (TelV (.text (Str.ofString "tuple"))) := by
  have hin := mode_in hm
  unfold ConG HasT6
  k_fill
  intro w mean mg mb dp un cn cs a ccd A₀ h₀ L m news s Q E B F X N T hk hneed hd hu hret
  walk_at "mine enterS"
  k_steps
  all_goals exact hret _ [] _ _ (telv_text rfl) (by k_asm) (by walk_at "mine news")
set_option maxRecDepth 100000 in
set_option maxHeartbeats 8000000 in
theorem c_wn' (p : Addr) (y mo d h i sc mode c : Int) (u1 u2 u3 u4 u5 u6 t2 : Tok) (hm : mode = 0 ∨ mode = 1)
    (b1 : -200000 ≤ y ∧ y ≤ 200000) (b2 : -200000 ≤ mo ∧ mo ≤ 200000) (b3 : -200000 ≤ d ∧ d ≤ 200000) (b4 : -200000 ≤ h ∧ h ≤ 200000) (b5 : -200000 ≤ i ∧ i ≤ 200000) (b6 : -200000 ≤ sc ∧ sc ≤ 200000)
    (hy : 1900 ≤ y ∧ y ≤ 9999) (hmo : 1 ≤ mo ∧ mo ≤ 12) (hd1 : 1 ≤ d) (hd2 : d ≤ kMon mo ∨ (d = 29 ∧ mo = 2 ∧ pLp y ≠ 0))
    (hc1 : mo ≤ 2 → (1461 * (y + 4716 - 1)).fdiv 4 + (979 * (mo + 9) + 16).fdiv 32 + d - 1364 - ((y + 4716 - 1 + 184).fdiv 100 * 3).fdiv 4 - pJd mode = c)
    (hc2 : 2 < mo → (1461 * (y + 4716)).fdiv 4 + (979 * (mo - 3) + 16).fdiv 32 + d - 1364 - ((y + 4716 + 184).fdiv 100 * 3).fdiv 4 - pJd mode = c)
    (hc0 : c ≤ 0) :
    ConG 6 187 (HasT6 p y mo d h i sc u1 u2 u3 u4 u5 u6) [.ref p, .int mode t2] (TelV (.text (Str.ofString "tuple"))) := by
  have hin := mode_in hm
  unfold ConG HasT6
  k_fill
  intro w mean mg mb dp un cn cs a ccd A₀ h₀ L m news s Q E B F X N T hk hneed hd hu hret
  walk_at "mine enterS"
  k_steps
  all_goals exact hret _ [] _ _ (telv_text rfl) (by k_asm) (by walk_at "mine news")
/-- the walk begins as in a file of its own -/
theorem freshC10 : True := by w_top off; exact True.intro
set_option maxRecDepth 100000 in
set_option maxHeartbeats 8000000 in
theorem c_wa' (p : Addr) (y mo d h i sc mode c : Int) (u1 u2 u3 u4 u5 u6 t2 : Tok) (hm : mode = 0 ∨ mode = 1)
    (b1 : -200000 ≤ y ∧ y ≤ 200000) (b2 : -200000 ≤ mo ∧ mo ≤ 200000) (b3 : -200000 ≤ d ∧ d ≤ 200000) (b4 : -200000 ≤ h ∧ h ≤ 200000) (b5 : -200000 ≤ i ∧ i ≤ 200000) (b6 : -200000 ≤ sc ∧ sc ≤ 200000)
    (hy : 1900 ≤ y ∧ y ≤ 9999) (hmo : 1 ≤ mo ∧ mo ≤ 12) (hd1 : 1 ≤ d) (hd2 : d ≤ kMon mo ∨ (d = 29 ∧ mo = 2 ∧ pLp y ≠ 0))
    (hc1 : mo ≤ 2 → (1461 * (y + 4716 - 1)).fdiv 4 + (979 * (mo + 9) + 16).fdiv 32 + d - 1364 - ((y + 4716 - 1 + 184).fdiv 100 * 3).fdiv 4 - pJd mode = c)
    (hc2 : 2 < mo → (1461 * (y + 4716)).fdiv 4 + (979 * (mo - 3) + 16).fdiv 32 + d - 1364 - ((y + 4716 + 184).fdiv 100 * 3).fdiv 4 - pJd mode = c)
    (hc0 : 0 < c ∧ c < 61) (ha : mode = 0) :
    ConG 6 187 (HasT6 p y mo d h i sc u1 u2 u3 u4 u5 u6) [.ref p, .int mode t2] (TelV (.text (Str.ofString "ambiguous"))) := by
  have hin := mode_in hm
  unfold ConG HasT6
  k_fill
  intro w mean mg mb dp un cn cs a ccd A₀ h₀ L m news s Q E B F X N T hk hneed hd hu hret
  walk_at "mine enterS"
  k_steps
  all_goals exact hret _ [] _ _ (telv_text rfl) (by k_asm) (by walk_at "mine news")
set_option maxRecDepth 100000 in
set_option maxHeartbeats 8000000 in
theorem c_wc (p : Addr) (y mo d h i sc mode : Int) (u1 u2 u3 u4 u5 u6 t2 : Tok) (hm : mode = 0 ∨ mode = 1)
    (b1 : -200000 ≤ y ∧ y ≤ 200000) (b2 : -200000 ≤ mo ∧ mo ≤ 200000) (b3 : -200000 ≤ d ∧ d ≤ 200000) (b4 : -200000 ≤ h ∧ h ≤ 200000) (b5 : -200000 ≤ i ∧ i ≤ 200000) (b6 : -200000 ≤ sc ∧ sc ≤ 200000)
    (hy : 1900 ≤ y ∧ y ≤ 9999) (hmo : 1 ≤ mo ∧ mo ≤ 12) (hd1 : 1 ≤ d) (hd2 : d ≤ pLong y mo)
    (hc : 0 < pCount y mo d - pBase mode ∧ pCount y mo d - pBase mode < 3000000) (ha : pCount y mo d - pBase mode < 61 → mode = 1)
    (hcl : ¬ (0 ≤ h ∧ h < 24 ∧ 0 ≤ i ∧ i < 60 ∧ 0 ≤ sc ∧ sc < 60)) :
    ConG 6 187 (HasT6 p y mo d h i sc u1 u2 u3 u4 u5 u6) [.ref p, .int mode t2] (TelV (.text (Str.ofString "tuple"))) := by
  skip
  unfold ConG HasT6
  k_fill
  intro w mean mg mb dp un cn cs a ccd A₀ h₀ L m news s Q E B F X N T hk hneed hd hu hret
  walk_at "mine enterS"
  k_steps
  all_goals exact hret _ [] _ _ (telv_text rfl) (by k_asm) (by walk_at "mine news")
section
/-- the law's own def, as it stands in the program (the last statement of its top), and parts of it -/
def lastStmt : List Stmt → Option Stmt
  | [] => none
  | [x] => some x
  | _ :: r => lastStmt r
def bodyOf : Option Stmt → List Stmt
  | some (.FunctionDef _ _ b ..) => b
  | some (.For _ _ b ..) => b
  | some (.If _ b ..) => b
  | _ => []
def scopeOf : Option Stmt → Option Scope
  | some (.FunctionDef (scope := sc) ..) => some sc
  | _ => none
def lawBody : List Stmt := bodyOf (lastStmt PySem.Challenge.pw_fe0353_01.main.body)
def lawScope : Option Scope := scopeOf (lastStmt PySem.Challenge.pw_fe0353_01.main.body)
def forBody : List Stmt := bodyOf (lawBody[7]?)
def readBody : List Stmt := bodyOf (forBody[2]?)
def writeBody : List Stmt := forBody.drop 3
/-- the scope and the frame of the law -/
def lawS : Scope := match lawScope with
  | some s => s
  | none => { kind := .function, names := [], isGenerator := false, isCoroutine := false }
abbrev lawE (L a : Addr) (ccd : Value) : Env := envOf (Str.ofString "law") lawS L a ccd
end
-- lines of the walk
local macro_rules | `(tactic| walk_at "binaryOp Add ref ref") => `(tactic| (k_here; (with_reducible show wpAny _ _ (binaryOp _ (Value.ref 133) (Value.ref _)) _ _ _); k_dflt (refine' kmk_add_lit ?F ?N (listIn ?X ?F2 ?l) ?b ?e ?_ ?z; (case F => k_asm); (case N => k_asm); (case X => k_asm); (case F2 => k_asm); (case l => k_is); (case b => kmk_list); (case e => kl_lit); (case z => kl_room)); intro D' h' F' N' l1; (try k_lt l1); (try k_sweep)))
section
open PySem.Float64
theorem cmp_of {x y : UInt64} (hx : Fn x) (hy : Fn y) : cmp x y = some (compare (val x) (val y)) := by
  obtain ⟨a, m, e, hx⟩ := hx
  obtain ⟨b, k, f, hy⟩ := hy
  exact cmp_right hx hy
theorem cmpInt_of {x : UInt64} (hx : Fn x) (i : Int) : cmpInt x i = some (compare (val x) (i * U)) := by
  obtain ⟨a, m, e, hx⟩ := hx
  rw [cmpInt_right hx]
  have e1 : U = (2 : Int) ^ 1074 := by unfold U; rw [← uN_is, cast_two_pow]
  rw [e1]
theorem ord_lt {a b : Int} : (some (compare a b) == some Ordering.lt) = decide (a < b) := by
  rcases Int.lt_trichotomy a b with h | h | h
  · rw [Int.compare_eq_lt.mpr h]; simp [h]
  · subst h; simp
  · rw [Int.compare_eq_gt.mpr h]; simp; omega
theorem ord_eq {a b : Int} : (some (compare a b) == some Ordering.eq) = decide (a = b) := by
  rcases Int.lt_trichotomy a b with h | h | h
  · rw [Int.compare_eq_lt.mpr h]; simp; omega
  · subst h; simp
  · rw [Int.compare_eq_gt.mpr h]; simp; omega
theorem ord_gt {a b : Int} : (some (compare a b) == some Ordering.gt) = decide (b < a) := by
  rcases Int.lt_trichotomy a b with h | h | h
  · rw [Int.compare_eq_lt.mpr h]; simp; omega
  · subst h; simp
  · rw [Int.compare_eq_gt.mpr h]; simp [h]
/-- where a float lies between two whole numbers, it is read so -/
theorem fr_near {x : UInt64} {n : Int} (hx : Fn x) (h0 : 0 < val x) (h1 : n * U ≤ val x) (h2 : val x < (n + 1) * U) (hn : 0 ≤ n ∧ n < 2999000) :
    ∃ S, FR x n S ∧ 1048576 * (86400 * (val x - n * U) - S * U) ≤ 524289 * U ∧ -(524289 * U) ≤ 1048576 * (86400 * (val x - n * U) - S * U) := by
  obtain ⟨p0, p5, p6, p17, p22, p54, p48, p49, p37, p32⟩ := two_pows
  have hu := U_pos
  obtain ⟨i1, i2⟩ := f_int n (by omega)
  obtain ⟨t1, t2, t3⟩ := tr_near hx (Int.le_of_lt h0)
  have et : Flt.toInt truncOf x = n := same_of (by omega) (by omega)
  have eN : (n + 1) * U = n * U + U := by rw [Int.add_mul, Int.one_mul]
  obtain ⟨a1, a2, a3, a4⟩ := f_sub 0 (by decide) hx i1 (by rw [i2, p0]; omega)
  rw [i2] at a2 a4
  have a2 := a2 (by omega)
  unfold Nr at a4
  simp only [show 54 - 0 = 54 from rfl, p54] at a4
  generalize hv : Float64.sub x (ofInt n) = v at *
  obtain ⟨b1, b3, b2⟩ := f_mul 17 (by decide) a1 fn_day.1 fn_day.2 (by decide) (by rw [p17]; omega)
  unfold Nr at b2
  simp only [show 54 - 17 = 37 from rfl, p37] at b2
  obtain ⟨r1, r2, r3⟩ := rd_near b1 b3
  have hf := b1.fin
  refine ⟨Flt.toInt nearestOf (Float64.mul v 4680673776000565248), ⟨hx.fin, ?_, ?_, et, by rw [hv]; exact hf, by rw [hv], hn, r1, ?_⟩, ?_, ?_⟩
  · rw [cmp_of hx fn_0.1, fn_0.2, ord_eq]; simp; omega
  · rw [cmp_of hx fn_0.1, fn_0.2, ord_lt]; simp; omega
  · apply le_of_U
    have : (86400 + 1 : Int) * U = 86401 * U := rfl
    omega
  · omega
  · omega
/-- a date's number and a clock's, added -/
theorem told_near {c h m s : Int} (hc : 0 ≤ c ∧ c < 2999000) (h1 : 0 ≤ h ∧ h < 24) (m1 : 0 ≤ m ∧ m < 60) (s1 : 0 ≤ s ∧ s < 60) :
    Fn (add (ofInt c) (tClock h m s)) ∧ c * U ≤ val (add (ofInt c) (tClock h m s)) ∧ (0 < 3600 * h + 60 * m + s → c * U < val (add (ofInt c) (tClock h m s))) ∧ val (add (ofInt c) (tClock h m s)) < (c + 1) * U ∧
      32768 * (86400 * val (add (ofInt c) (tClock h m s)) - (86400 * c + (3600 * h + 60 * m + s)) * U) ≤ U ∧ -U ≤ 32768 * (86400 * val (add (ofInt c) (tClock h m s)) - (86400 * c + (3600 * h + 60 * m + s)) * U) := by
  obtain ⟨p0, p5, p6, p17, p22, p54, p48, p49, p37, p32⟩ := two_pows
  have hu := U_pos
  obtain ⟨i1, i2⟩ := f_int c (by omega)
  obtain ⟨c1, c2, c3, c4, c5⟩ := clock_near h1 m1 s1
  have hS : 0 ≤ 3600 * h + 60 * m + s ∧ 3600 * h + 60 * m + s ≤ 86399 := by omega
  generalize 3600 * h + 60 * m + s = S at *
  generalize tClock h m s = t at *
  have cU := Int.mul_le_mul_of_nonneg_right (show c ≤ 2998999 by omega) (Int.le_of_lt hu)
  have cU0 := Int.mul_nonneg hc.1 (Int.le_of_lt hu)
  have sU := Int.mul_le_mul_of_nonneg_right hS.2 (Int.le_of_lt hu)
  have e1 : (c + 1) * U = c * U + U := by rw [Int.add_mul, Int.one_mul]
  have e2 : (86400 * c + S) * U = 86400 * (c * U) + S * U := by rw [Int.add_mul, Int.mul_assoc]
  rw [e1, e2]
  by_cases hz : S = 0
  · have ht := c3 hz
    have hn : ((c.toNat : Nat) : Int) = c := by omega
    obtain ⟨a1, a2⟩ := f_add_whole (n := c.toNat) i1 c1 (by omega) (by rw [i2, ht, hn, Int.add_zero])
    rw [hn] at a2
    rw [a2, hz]
    refine ⟨a1, Int.le_refl _, by omega, by omega, by omega, by omega⟩
  · have sU1 := Int.mul_le_mul_of_nonneg_right (show 1 ≤ S by omega) (Int.le_of_lt hu)
    obtain ⟨a1, a2, a3, a4⟩ := f_add 22 (by decide) i1 c1 (by rw [i2, p22]; omega)
    rw [i2] at a4
    unfold Nr at a4
    simp only [show 54 - 22 = 32 from rfl, p32] at a4
    refine ⟨a1, by omega, by omega, by omega, by omega, by omega⟩
theorem near_same {S T v : Int} (h1 : 4 * (v - S * U) ≤ 3 * U) (h2 : -(3 * U) ≤ 4 * (v - S * U)) (h3 : 4 * (v - T * U) < U) (h4 : -U < 4 * (v - T * U)) : S = T := by
  have e1 : (T + 1) * U = T * U + U := by rw [Int.add_mul, Int.one_mul]
  have e2 : (S + 1) * U = S * U + U := by rw [Int.add_mul, Int.one_mul]
  apply same_of <;> omega
/-- what was written is read back -/
theorem told_fr {c h m s : Int} (hc : 0 ≤ c ∧ c < 2999000) (h1 : 0 ≤ h ∧ h < 24) (m1 : 0 ≤ m ∧ m < 60) (s1 : 0 ≤ s ∧ s < 60) (hp : 0 < c ∨ 0 < 3600 * h + 60 * m + s) :
    FR (add (ofInt c) (tClock h m s)) c (3600 * h + 60 * m + s) := by
  have hu := U_pos
  obtain ⟨a1, a2, a3, a4, a5, a6⟩ := told_near hc h1 m1 s1
  have h0 : 0 < val (add (ofInt c) (tClock h m s)) := by
    have cU0 := Int.mul_nonneg hc.1 (Int.le_of_lt hu)
    rcases hp with h | h
    · have := Int.mul_pos h hu
      omega
    · have := a3 h
      omega
  obtain ⟨S, f1, f2, f3⟩ := fr_near a1 h0 a2 a4 hc
  have e2 : (86400 * c + (3600 * h + 60 * m + s)) * U = 86400 * (c * U) + (3600 * h + 60 * m + s) * U := by rw [Int.add_mul, Int.mul_assoc]
  rw [e2] at a5 a6
  have e : S = 3600 * h + 60 * m + s := near_same (v := 86400 * (val (add (ofInt c) (tClock h m s)) - c * U)) (by omega) (by omega) (by omega) (by omega)
  rw [← e]
  exact f1
end
section
section
variable {M : Model} {A : Around} {E : Value → Shared → Prop} {env : Env}
theorem wp_split (Γ : Ctx) (l2 : List Stmt) (P : Flow → Pos → Shared → Prop) (X : Value → Pos → Shared → Prop) : ∀ (l1 : List Stmt) (p : Pos) (s : Shared),
    Sem.wp M Γ (execs l1 env) (fun f p' s' => Sem.wp M Γ (match f with | .next => execs l2 env | f => pure f) P X p' s') X p s → Sem.wp M Γ (execs (l1 ++ l2) env) P X p s
  | [], p, s, h => h
  | st :: l, p, s, h => by
    rw [execs_cons, Sem.wp_bind'] at h
    rw [List.cons_append, execs_cons, Sem.wp_bind']
    refine Sem.wp_mono M Γ _ (fun f p' s' h' => ?_) (fun _ _ _ h' => h') _ _ h
    cases f with
    | next => exact wp_split Γ l2 P X l p' s' h'
    | brk => exact h'
    | cont => exact h'
    | ret v => exact h'
theorem execs_split {l1 l2 : List Stmt} {s : Shared} {Q : Flow → Shared → Prop}
    (h : wpAny M A (execs l1 env) (fun f s' => match f with | .next => wpAny M A (execs l2 env) Q E s' | f => Q f s') E s) : wpAny M A (execs (l1 ++ l2) env) Q E s := fun Γ p hΓ => by
  refine wp_split Γ l2 _ _ l1 p s (Sem.wp_mono M Γ _ (fun f p' s' h' => ?_) (fun _ _ _ h' => h') _ _ (h Γ p hΓ))
  cases f with
  | next => exact h' Γ p' hΓ
  | brk => exact h'
  | cont => exact h'
  | ret v => exact h'
end
section
variable {prog : Program} {w : World} {A : Around} {E : Value → Shared → Prop} {Q : Flow → Shared → Prop} {s : Shared} {env : Env} {h₀ : Heap} {L : Addr}
/-- a run of statements, and what is forgotten behind it -/
theorem my_seg {σ : Type} {l : List Stmt} (n : Nat) (ps : σ → List (Str × Value)) (Led : σ → List (Addr × Obj)) (P : σ → Prop)
    (h1 : wpAny (model prog w) A (execs (l.take n) env) (CutPost h₀ L s ps Led P Q) E s)
    (h2 : ∀ c u h tk, P c → Fr h₀ L h (kstB u (ps c)) → News h₀ L h (Led c) → wpAny (model prog w) A (execs (l.drop n) env) Q E { s with heap := h, toks := tk }) :
    wpAny (model prog w) A (execs l env) Q E s := by
  rw [← List.take_append_drop n l]
  refine execs_split (wpAny_mono h1 (fun f s₂ p => ?_) fun _ _ x => x)
  cases f with
  | next =>
    obtain ⟨c, h', tk, m', rfl, F, N, hk, hp⟩ := p
    exact h2 c m' h' tk hp (kst_forget hk F) N
  | brk => exact p
  | cont => exact p
  | ret v => exact p
end
/-- what a value is to the reading -/
def VR (v : Value) (whole S : Int) : Prop :=
  (∃ x t, v = .float x t ∧ FR x whole S) ∨ (∃ x t, v = .float x t ∧ (Float64.cmp x 0 == some Ordering.eq) = true ∧ whole = 0 ∧ S = 0) ∨
  (∃ x t, v = .float x t ∧ (Float64.cmp x 0 == some Ordering.eq) = false ∧ (Float64.cmp x 0 == some Ordering.lt) = true ∧ whole < 0) ∨
  (∃ t, v = .int whole t ∧ S = 0 ∧ -10 ≤ whole ∧ whole < 2999000)
/-- the data that a reading's word is -/
def telD : Tel → PyData
  | .text x => .str x
  | .date y m d h i s => .tuple [.int y, .int m, .int d, .int h, .int i, .int s]
theorem telv_via {h₀ : Heap} {T : Tel} {v : Value} {tl news : List (Addr × Obj)} (h : TelV T v tl) (hs : ∀ p ∈ tl, p ∈ news) : ReadsVia h₀ news v (telD T) := by
  cases T with
  | text x =>
    obtain ⟨_, t, rfl⟩ := h
    exact ReadsVia.str _ _
  | date y m d h i s =>
    obtain ⟨a, t1, t2, t3, t4, t5, t6, rfl, rfl⟩ := h
    exact ReadsVia.tuple (vs := [.int y t1, .int m t2, .int d t3, .int h t4, .int i t5, .int s t6]) (hs _ (.head _)) (.cons (.int _ _) (.cons (.int _ _) (.cons (.int _ _) (.cons (.int _ _) (.cons (.int _ _) (.cons (.int _ _) .nil))))))
def telOk : Tel → Prop
  | .text x => PyData.strOk x = true
  | .date .. => True
theorem telD_lay {T : Tel} (h : telOk T) : (telD T).canLay0 = true := by
  cases T with
  | text x => simp only [telD, PyData.canLay0]; exact h
  | date => simp [telD, PyData.canLay0, PyData.canLayAll0]
theorem pRead_ok (whole S mode : Int) : telOk (pRead whole S mode) := by
  unfold pRead
  simp only
  repeat' (first | (show PyData.strOk _ = true; decide +kernel) | exact True.intro | split)
theorem telD_depth (T : Tel) : (telD T).depth ≤ 1 := by
  cases T
  · exact Nat.zero_le _
  · simp [telD, PyData.depth, PyData.depthAll]
theorem telD_eqv (T : Tel) : PyData.eqv (telD T) (telD T) = true := by
  cases T <;> simp [telD, PyData.eqv, PyData.eqvAll]
end
/-- the walk begins as in a file of its own -/
theorem freshC11 : True := by w_top off; exact True.intro
theorem f_sub_self (n : Int) : Float64.ofInt (n - n) = 0 := by rw [Int.sub_self]; exact c0.symm
theorem mul_zero_day : Float64.isFinite (Float64.mul 0 4680673776000565248) = true ∧ Flt.toInt Float64.nearestOf (Float64.mul 0 4680673776000565248) = 0 := by decide +kernel
theorem cmpInt_zero (n : Int) : Float64.cmpInt 0 n = some (compare 0 n) := by
  have h := cmpInt_of fn_0.1 n
  rw [fn_0.2] at h
  rw [h]
  congr 1
  have hu := U_pos
  rcases Int.lt_trichotomy 0 n with q | q | q
  · rw [Int.compare_eq_lt.mpr q, Int.compare_eq_lt.mpr (Int.mul_pos q hu)]
  · subst q; simp
  · rw [Int.compare_eq_gt.mpr q, Int.compare_eq_gt.mpr (Int.mul_neg_of_neg_of_pos q hu)]
/-- the reading, of whatever value -/
theorem c_read {v : Value} {whole S mode : Int} (t2 : Tok) (hv : VR v whole S) (hm : mode = 0 ∨ mode = 1) :
    ConL 5 180 anyNews [v, .int mode t2] (TelV (pRead whole S mode)) := by
  rcases hv with ⟨x, t, rfl, h⟩ | ⟨x, t, rfl, h, rfl, rfl⟩ | ⟨x, t, rfl, h1, h2, h3⟩ | ⟨t, rfl, rfl, h1, h2⟩
  · exact c_read_f x whole S mode t t2 h hm
  · exact c_read_z x mode t t2 h hm
  · exact c_read_nf x whole S mode t t2 h1 h2 h3 hm
  · rcases Int.lt_trichotomy whole 0 with q | q | q
    · refine c_read_in whole 0 mode t t2 q hm ?_ ?_
      · rw [cmpInt_zero, ord_eq]; simp; omega
      · rw [cmpInt_zero, ord_gt]; simp; omega
    · subst q
      refine c_read_i0 0 mode t t2 ?_ hm
      rw [cmpInt_zero, ord_eq]; simp
    · refine c_read_ip whole mode t t2 ⟨q, h2⟩ hm ?_ ?_ ?_ ?_
      · rw [cmpInt_zero, ord_eq]; simp; omega
      · rw [cmpInt_zero, ord_gt]; simp; omega
      · rw [f_sub_self]; exact mul_zero_day.1
      · rw [f_sub_self]; exact mul_zero_day.2
section
/-- the list of what is due: read as `ds`, among them `T` -/
structure DueOk (h₀ : Heap) (led : List (Addr × Obj)) (v : Value) (ds : List PyData) (T : Tel) : Prop where
  reads : ReadsVia h₀ led v (.list ds)
  lay : PyData.canLayAll0 ds = true
  deep : PyData.depthAll ds ≤ 1
  has : telD T ∈ ds
section
variable {prog : Program} {w : World} {A : Around} {E : Value → Shared → Prop} {s : Shared} {h₀ : Heap} {L : Addr} {m : Str → Option Value} {led : List (Addr × Obj)} {Q : Value → Shared → Prop}
theorem due_notin {T : Tel} {d v : Value} {ds : List PyData} (hd : DueOk h₀ led d ds T) (hv : ReadsVia h₀ led v (telD T)) (hT : telOk T) (F : Fr h₀ L s.heap m) (N : News h₀ L s.heap led) (hu : A.units + 3 < cLine) (h : Q (.bool false) s) :
    wpAny (model prog w) A (compareOp .NotIn v d) Q E s := by
  refine notIn_list_via hd.reads hv F N hd.lay (telD_lay hT) ?_ ?_
  · have := hd.deep
    omega
  · have e : (ds.any fun y => PyData.eqv y (telD T)) = true := List.any_eq_true.mpr ⟨_, hd.has, telD_eqv T⟩
    rw [e]
    exact h
theorem told_ne {T : Tel} {v v' : Value} (hv : ReadsVia h₀ led v (telD T)) (hv' : ReadsVia h₀ led v' (telD T)) (hT : telOk T) (F : Fr h₀ L s.heap m) (N : News h₀ L s.heap led) (hu : A.units + 3 < cLine) (h : Q (.bool false) s) :
    wpAny (model prog w) A (compareOp .NotEq v v') Q E s := by
  refine compareNe_via hv hv' F N (telD_lay hT) (telD_lay hT) ?_ ?_
  · have := telD_depth T
    omega
  · rw [telD_eqv T]
    exact h
end
theorem due_one {h₀ : Heap} {led : List (Addr × Obj)} {D : Addr} {v : Value} {T : Tel} {n : Nat} (hm : (D, ({ cls := .type "list", data := .seq #[v] n } : Obj)) ∈ led) (hv : ReadsVia h₀ led v (telD T)) (hT : telOk T) : DueOk h₀ led (.ref D) [telD T] T := by
  refine ⟨fun h hk hn => ?_, ?_, ?_, .head _⟩
  · obtain ⟨as, ra⟩ := hv h hk hn
    exact ⟨_, .list (hn _ hm) rfl rfl (.cons ra .nil)⟩
  · simp [PyData.canLayAll0, telD_lay hT]
  · have := telD_depth T
    simp only [PyData.depthAll, Nat.max_zero]
    omega
theorem due_two {h₀ : Heap} {led : List (Addr × Obj)} {D : Addr} {v v' : Value} {T T' : Tel} {n : Nat} (hm : (D, ({ cls := .type "list", data := .seq #[v, v'] n } : Obj)) ∈ led) (hv : ReadsVia h₀ led v (telD T)) (hT : telOk T)
    (hv' : ReadsVia h₀ led v' (telD T')) (hT' : telOk T') {T₀ : Tel} (h0 : T₀ = T ∨ T₀ = T') : DueOk h₀ led (.ref D) [telD T, telD T'] T₀ := by
  refine ⟨fun h hk hn => ?_, ?_, ?_, ?_⟩
  · obtain ⟨as, ra⟩ := hv h hk hn
    obtain ⟨bs, rb⟩ := hv' h hk hn
    exact ⟨_, .list (hn _ hm) rfl rfl (.cons ra (.cons rb .nil))⟩
  · simp [PyData.canLayAll0, telD_lay hT, telD_lay hT']
  · have := telD_depth T
    have := telD_depth T'
    simp only [PyData.depthAll, Nat.max_zero]
    omega
  · rcases h0 with rfl | rfl
    · exact .head _
    · exact .tail _ (.head _)
section
variable {prog : Program} {w : World} {A : Around} {E : Value → Shared → Prop} {s : Shared} {h₀ : Heap} {L : Addr} {m : Str → Option Value} {led : List (Addr × Obj)} {Q : Value → Shared → Prop}
/-- a list of one grows by one, wherever it stands on the ledger -/
theorem append_one {D : Addr} {v x : Value} {n : Nat} (F : Fr h₀ L s.heap m) (N : News h₀ L s.heap led) (hm : (D, listOf #[v] n) ∈ led)
    (h : ∀ h' led', Fr h₀ L h' m → News h₀ L h' led' → (D, listOf #[v, x] (n + 1)) ∈ led' → (∀ p ∈ led, p.1 ≠ D → p ∈ led') → (∀ p ∈ led, p.2.cls = .type "tuple" → p ∈ led') → Q .none { s with heap := h' }) :
    wpAny (model prog w) A (PySem.call (.builtin "list.append") [.ref D, x]) Q E s := by
  have z := N _ hm
  refine append_at (its := #[v]) (n := n) (hsz := by show 1 ≤ sizeLine; decide) z.1 fun h' hs ho' => ?_
  refine h h' ((D, listOf #[v, x] (n + 1)) :: led.filter (fun p => p.1 != D)) (F.change hs z.2.1 z.2.2) ?_ (.head _) ?_ ?_
  · intro p hp
    rcases List.mem_cons.mp hp with rfl | hp
    · exact ⟨ho', z.2⟩
    · obtain ⟨h1, h2⟩ := List.mem_filter.mp hp
      have h3 := N p h1
      exact ⟨(hs.2 _ (by simpa using h2)).trans h3.1, h3.2⟩
  · intro p hp hne
    exact .tail _ (List.mem_filter.mpr ⟨hp, by simpa using hne⟩)
  · intro p hp hc
    refine .tail _ (List.mem_filter.mpr ⟨hp, ?_⟩)
    have h3 : p.1 ≠ D := by
      intro e
      have h4 := (N p hp).1
      rw [e] at h4
      have h5 := h4.symm.trans z.1
      have h6 := Option.some.inj h5
      rw [h6] at hc
      exact absurd (Value.type.inj hc) (by decide)
    simpa using h3
end
theorem telv_tup {T : Tel} {v : Value} {tl : List (Addr × Obj)} (h : TelV T v tl) : ∀ p ∈ tl, p.2.cls = .type "tuple" := by
  cases T with
  | text x => obtain ⟨rfl, _⟩ := h; intro p hp; cases hp
  | date =>
    obtain ⟨a, t1, t2, t3, t4, t5, t6, rfl, rfl⟩ := h
    intro p hp
    rw [List.mem_singleton.mp hp]
theorem news_drop' {h₀ h : Heap} {L : Addr} {l l' : List (Addr × Obj)} (S : ∀ p ∈ l, p ∈ l') (N : News h₀ L h l') : News h₀ L h l := fun p hp => N p (S p hp)
theorem allLt_ne {D : Addr} {l : List (Addr × Obj)} (h : AllLt D l) : ∀ p ∈ l, p.1 ≠ D := fun p hp e => absurd (kst_ltOf h p hp) (by rw [e]; exact Nat.lt_irrefl _)

theorem r0_a {rest : Int} : (-1 ≤ (97 * rest + 36526).fmod 2958500 ∧ (97 * rest + 36526).fmod 2958500 < 2958500) ∧ 0 ≤ (rest.fdiv 2958500 * 5 + rest).fmod 262144 ∧ (rest.fdiv 2958500 * 5 + rest).fmod 262144 < 262144 := by
  rw [Int.fmod_eq_emod_of_nonneg _ (by decide), Int.fmod_eq_emod_of_nonneg _ (by decide)]
  omega
theorem getD_all {P : Int → Prop} : ∀ {l : List Int} (_ : ∀ x ∈ l, P x) {d : Int} (_ : P d) (i : Nat), P (l.getD i d)
  | [], _, _, hd, i => by simpa using hd
  | x :: l, h, _, hd, 0 => by simpa using h x (.head _)
  | x :: l, h, _, hd, i + 1 => by
    have := getD_all (l := l) (fun y hy => h y (.tail _ hy)) hd i
    simpa using this
theorem r0_b {mode : Int} (hm : mode = 0 ∨ mode = 1) (i j : Nat) : (-1 ≤ [0, 1, 2, 59, 60, 61, 62, 366, -1, pTop mode - 2, pTop mode - 1, pTop mode].getD i 0 ∧
    [0, 1, 2, 59, 60, 61, 62, 366, -1, pTop mode - 2, pTop mode - 1, pTop mode].getD i 0 < 2958500) ∧
  0 ≤ ([0, 1, 262143, 262142, 131072, 3, 262141, 87381] : List Int).getD j 0 ∧ ([0, 1, 262143, 262142, 131072, 3, 262141, 87381] : List Int).getD j 0 < 262144 := by
  refine ⟨?_, ?_⟩
  · refine getD_all (P := fun x => -1 ≤ x ∧ x < 2958500) ?_ (by decide) i
    rcases hm with rfl | rfl <;> decide
  · refine getD_all (P := fun x => 0 ≤ x ∧ x < 262144) ?_ ?_ j <;> decide

theorem due_app {h₀ : Heap} {led9 tl1 tl2 news : List (Addr × Obj)} {D : Addr} {v1 v2 : Value} {n n0 : Nat} {T1 T2 T0 : Tel} (hA : (D, listOf #[v1, v2] n) ∈ led9) (r1 : TelV T1 v1 tl1) (r2 : TelV T2 v2 tl2)
    (hC : ∀ p ∈ tl2 ++ (D, listOf #[v1] n0) :: (tl1 ++ news), p.2.cls = .type "tuple" → p ∈ led9) (hB : ∀ p ∈ tl2 ++ (D, listOf #[v1] n0) :: (tl1 ++ news), p.1 ≠ D → p ∈ led9) (l1 : ∀ p ∈ tl1 ++ news, p.1 < D)
    (o1 : telOk T1) (o2 : telOk T2) (h0 : T0 = T1 ∨ T0 = T2) : DueOk h₀ led9 (.ref D) [telD T1, telD T2] T0 ∧ ∀ p ∈ news, p ∈ led9 := by
  refine ⟨due_two hA (telv_via r1 fun p hp => hC p ?_ (telv_tup r1 p hp)) o1 (telv_via r2 fun p hp => hC p ?_ (telv_tup r2 p hp)) o2 h0, fun p hp => hB p ?_ ?_⟩
  · simp [hp]
  · simp [hp]
  · simp [hp]
  · intro e
    have := l1 p (List.mem_append_right _ hp)
    rw [e] at this
    exact Nat.lt_irrefl _ this

theorem DueOk.more {h₀ : Heap} {led led' : List (Addr × Obj)} {v : Value} {ds : List PyData} {T : Tel} (h : DueOk h₀ led v ds T) (hs : ∀ p ∈ led, p ∈ led') : DueOk h₀ led' v ds T := ⟨h.reads.more hs, h.lay, h.deep, h.has⟩
/-- a reading's word and where it lies -/
structure ToldOk (led : List (Addr × Obj)) (v : Value) (T : Tel) (tl : List (Addr × Obj)) : Prop where
  is : TelV T v tl
  sub : ∀ p ∈ tl, p ∈ led

/-- the float that the law makes of a whole number and its 262,144ths -/
abbrev pX (whole part : Int) : UInt64 := Float64.add (Float64.ofInt whole) (Float64.ofFrac (decide (part < 0) != decide (262144 < 0)) part.natAbs (Int.natAbs 262144))
theorem vr1 {part whole S : Int} {t : Tok} (h : part = 0 → ∀ t, VR (.int whole t) whole S) (h0 : part = 0) : VR (.int whole t) whole S := h h0 t
theorem vr2 {part whole S : Int} {t : Tok} (h : 0 < part → ∀ t, VR (.float (pX whole part) t) whole S) (h0 : 0 < part) : VR (.float (pX whole part) t) whole S := h h0 t

theorem vr3 {x : UInt64} {whole S : Int} {t : Tok} (h : ∀ t, VR (.float x t) whole S) : VR (.float x t) whole S := h t
section
variable {prog : Program} {w : World} {A : Around} {E : Value → Shared → Prop} {s : Shared} {h₀ : Heap} {L : Addr} {m : Str → Option Value} {led cur tl : List (Addr × Obj)} {Q : Value → Shared → Prop}
theorem told_ne2 {T T' : Tel} {v v' : Value} (F : Fr h₀ L s.heap m) (N : News h₀ L s.heap cur) (r : TelV T v tl) (e : T = T') (s1 : ∀ p ∈ tl, p ∈ cur) (hv' : ReadsVia h₀ led v' (telD T')) (s2 : ∀ p ∈ led, p ∈ cur) (hT : telOk T') (hu : A.units + 3 < cLine) (h : Q (.bool false) s) :
    wpAny (model prog w) A (compareOp .NotEq v v') Q E s := by
  subst e
  exact told_ne (telv_via r s1) (hv'.more s2) hT F N hu h
end

theorem mon_ok (x : Int) : 1 ≤ 1 + x.fmod 12 ∧ 1 + x.fmod 12 ≤ 12 := by
  rw [Int.fmod_eq_emod_of_nonneg _ (by decide)]; omega
/-- the six numbers that the law writes: what is known of them -/
structure SixIn (y mo d h i sc : Int) : Prop where
  b1 : -200000 ≤ y ∧ y ≤ 200000
  b2 : -200000 ≤ mo ∧ mo ≤ 200000
  b3 : -200000 ≤ d ∧ d ≤ 200000
  b4 : -200000 ≤ h ∧ h ≤ 200000
  b5 : -200000 ≤ i ∧ i ≤ 200000
  b6 : -200000 ≤ sc ∧ sc ≤ 200000
  kind : (y = 0 ∧ mo = 0 ∧ d = 0 ∧ (0 ≤ h ∧ h < 24) ∧ (0 ≤ i ∧ i < 60) ∧ 0 ≤ sc ∧ sc < 60) ∨ ((y < 1900 ∨ 9999 < y) ∧ 1 ≤ mo ∧ mo ≤ 12) ∨ (1900 ≤ y ∧ y ≤ 9999)

theorem clk_ok (x : Int) : (0 ≤ (x.fmod 86400).fdiv 3600 ∧ (x.fmod 86400).fdiv 3600 < 24) ∧ (0 ≤ ((x.fmod 86400).fdiv 60).fmod 60 ∧ ((x.fmod 86400).fdiv 60).fmod 60 < 60) ∧ 0 ≤ (x.fmod 86400).fmod 60 ∧ (x.fmod 86400).fmod 60 < 60 := by
  simp only [Int.fmod_eq_emod_of_nonneg _ (show (0:Int) ≤ 86400 by decide), Int.fmod_eq_emod_of_nonneg _ (show (0:Int) ≤ 60 by decide), Int.fdiv_eq_ediv_of_nonneg _ (show (0:Int) ≤ 3600 by decide), Int.fdiv_eq_ediv_of_nonneg _ (show (0:Int) ≤ 60 by decide)]
  omega
theorem day_ok (x : Int) : 1 ≤ 1 + x.fmod 31 ∧ 1 + x.fmod 31 ≤ 31 := by
  rw [Int.fmod_eq_emod_of_nonneg _ (by decide)]; omega
theorem year_ok (x : Int) : 1900 ≤ 1900 + x.fmod 8100 ∧ 1900 + x.fmod 8100 ≤ 9999 := by
  rw [Int.fmod_eq_emod_of_nonneg _ (by decide)]; omega
theorem gy1 (i : Nat) : 0 ≤ [1899, 1600, (0 : Int)].getD i 0 ∧ [1899, 1600, (0 : Int)].getD i 0 < 1900 := by
  refine getD_all (P := fun x => 0 ≤ x ∧ x < 1900) ?_ ?_ i <;> decide
theorem gy2 (i : Nat) : 0 ≤ [10000, 12004, (100000 : Int)].getD i 0 ∧ [10000, 12004, (100000 : Int)].getD i 0 ≤ 100000 ∧ ([10000, 12004, (100000 : Int)].getD i 0 < 1900 ∨ 9999 < [10000, 12004, (100000 : Int)].getD i 0) := by
  refine getD_all (P := fun x => 0 ≤ x ∧ x ≤ 100000 ∧ (x < 1900 ∨ 9999 < x)) ?_ ?_ i <;> decide
theorem gsm {a b c : Int} (i : Nat) (ha : -200000 ≤ a ∧ a ≤ 200000) (hb : -200000 ≤ b ∧ b ≤ 200000) (hc : -200000 ≤ c ∧ c ≤ 200000) : -200000 ≤ [a, b, c].getD i 0 ∧ [a, b, c].getD i 0 ≤ 200000 := by
  refine getD_all (P := fun x => -200000 ≤ x ∧ x ≤ 200000) ?_ (by decide) i
  intro x hx
  rcases List.mem_cons.mp hx with rfl | hx
  · exact ha
  rcases List.mem_cons.mp hx with rfl | hx
  · exact hb
  rcases List.mem_cons.mp hx with rfl | hx
  · exact hc
  cases hx
theorem six_zero {h i sc : Int} (k : (0 ≤ h ∧ h < 24) ∧ (0 ≤ i ∧ i < 60) ∧ 0 ≤ sc ∧ sc < 60) : SixIn 0 0 0 h i sc := by
  obtain ⟨k1, k2, k3⟩ := k
  constructor <;> omega
theorem six_bad {y mo d h i sc : Int} (hy : 0 ≤ y ∧ y ≤ 100000 ∧ (y < 1900 ∨ 9999 < y)) (hm : 1 ≤ mo ∧ mo ≤ 12) (hd : 1 ≤ d ∧ d ≤ 31) (k : (0 ≤ h ∧ h < 24) ∧ (0 ≤ i ∧ i < 60) ∧ 0 ≤ sc ∧ sc < 60) : SixIn y mo d h i sc := by
  obtain ⟨k1, k2, k3⟩ := k
  constructor <;> omega
theorem six_any {y mo d h i sc : Int} (hy : 1900 ≤ y ∧ y ≤ 9999) (b2 : -200000 ≤ mo ∧ mo ≤ 200000) (b3 : -200000 ≤ d ∧ d ≤ 200000) (b4 : -200000 ≤ h ∧ h ≤ 200000) (b5 : -200000 ≤ i ∧ i ≤ 200000) (b6 : -200000 ≤ sc ∧ sc ≤ 200000) : SixIn y mo d h i sc := by
  constructor <;> omega
theorem sm_of {a lo hi : Int} (h : lo ≤ a ∧ a < hi) (h1 : -200000 ≤ lo) (h2 : hi ≤ 200000) : -200000 ≤ a ∧ a ≤ 200000 := by omega
theorem sm_le {a lo hi : Int} (h : lo ≤ a ∧ a ≤ hi) (h1 : -200000 ≤ lo) (h2 : hi ≤ 200000) : -200000 ≤ a ∧ a ≤ 200000 := by omega
theorem sm_long (y m x : Int) (hx : m = 1 + x.fmod 12) : -200000 ≤ pLong y m + 1 ∧ pLong y m + 1 ≤ 200000 := by
  have h := mon_ok x
  rw [← hx] at h
  have := pLong_pos y m h.1 h.2
  omega

section
variable {prog : Program} {w : World} {A : Around} {E : Value → Shared → Prop} {s : Shared} {h₀ : Heap} {L : Addr} {m : Str → Option Value} {led : List (Addr × Obj)} {Q : Value → Shared → Prop}
theorem via3 {p : Addr} {y mo d : Int} {t1 t2 t3 : Tok} (hp : (p, ({ cls := .type "tuple", data := .seq #[.int y t1, .int mo t2, .int d t3] } : Obj)) ∈ led) : ReadsVia h₀ led (.ref p) (.tuple [.int y, .int mo, .int d]) :=
  ReadsVia.tuple (vs := [.int y t1, .int mo t2, .int d t3]) hp (.cons (.int _ _) (.cons (.int _ _) (.cons (.int _ _) .nil)))
theorem eqv3_no {y mo d : Int} (hz : y ≠ 0 ∨ 1 ≤ mo) : PyData.eqv (.tuple [.int y, .int mo, .int d]) (.tuple [.int 0, .int 0, .int 0]) = false := by
  simp only [PyData.eqv, PyData.eqvAll, Bool.and_true]
  rcases hz with h | h
  · have : (y == 0) = false := by simpa using h
    simp [this]
  · have : (mo == 0) = false := by simp; omega
    simp [this]
theorem eq3_no {p q : Addr} {y mo d : Int} {t1 t2 t3 t4 t5 t6 : Tok} (F : Fr h₀ L s.heap m) (N : News h₀ L s.heap led)
    (hp : (p, ({ cls := .type "tuple", data := .seq #[.int y t1, .int mo t2, .int d t3] } : Obj)) ∈ led) (hq : (q, ({ cls := .type "tuple", data := .seq #[.int 0 t4, .int 0 t5, .int 0 t6] } : Obj)) ∈ led)
    (hz : y ≠ 0 ∨ 1 ≤ mo) (hu : A.units + 2 < cLine) (h : Q (.bool false) s) : wpAny (model prog w) A (compareOp .Eq (.ref p) (.ref q)) Q E s := by
  refine compareEq_via (via3 hp) (via3 hq) F N ?_ ?_ ?_ ?_
  · simp [PyData.canLay0, PyData.canLayAll0]
  · simp [PyData.canLay0, PyData.canLayAll0]
  · simp only [PyData.depth, PyData.depthAll, Nat.max_self, Nat.min_self]; omega
  · rw [eqv3_no hz]; exact h
theorem ne3_no {p q : Addr} {y mo d : Int} {t1 t2 t3 t4 t5 t6 : Tok} (F : Fr h₀ L s.heap m) (N : News h₀ L s.heap led)
    (hp : (p, ({ cls := .type "tuple", data := .seq #[.int y t1, .int mo t2, .int d t3] } : Obj)) ∈ led) (hq : (q, ({ cls := .type "tuple", data := .seq #[.int 0 t4, .int 0 t5, .int 0 t6] } : Obj)) ∈ led)
    (hz : y ≠ 0 ∨ 1 ≤ mo) (hu : A.units + 2 < cLine) (h : Q (.bool true) s) : wpAny (model prog w) A (compareOp .NotEq (.ref p) (.ref q)) Q E s := by
  refine compareNe_via (via3 hp) (via3 hq) F N ?_ ?_ ?_ ?_
  · simp [PyData.canLay0, PyData.canLayAll0]
  · simp [PyData.canLay0, PyData.canLayAll0]
  · simp only [PyData.depth, PyData.depthAll, Nat.max_self, Nat.min_self]; omega
  · rw [eqv3_no hz]; exact h
end

theorem hyp_w {mode y mo d h i sc : Int} {R : Value → List (Addr × Obj) → Prop} (hW : ∀ p v1 v2 v3 v4 v5 v6 t, ConG 6 187 (HasT6 p y mo d h i sc v1 v2 v3 v4 v5 v6) [.ref p, .int mode t] R) (p : Addr) (v1 v2 v3 v4 v5 v6 t : Tok) :
    ConG 6 187 (HasT6 p y mo d h i sc v1 v2 v3 v4 v5 v6) [.ref p, .int mode t] R := hW p v1 v2 v3 v4 v5 v6 t
theorem hyp_d {mode y mo d : Int} {R : Value → List (Addr × Obj) → Prop} (hD : ∀ p v1 v2 v3 t, Con 2 111 (HasT3 p y mo d v1 v2 v3) [.ref p, .int mode t] R) (p : Addr) (v1 v2 v3 t : Tok) :
    Con 2 111 (HasT3 p y mo d v1 v2 v3) [.ref p, .int mode t] R := hD p v1 v2 v3 t

section
variable {prog : Program} {w : World} {A : Around} {E : Value → Shared → Prop} {s : Shared} {h₀ : Heap} {L : Addr} {m : Str → Option Value} {led : List (Addr × Obj)} {Q : Value → Shared → Prop}
theorem add33 {p q : Addr} {a b c d e f : Int} {t1 t2 t3 t4 t5 t6 : Tok} (F : Fr h₀ L s.heap m) (N : News h₀ L s.heap led)
    (hp : (p, ({ cls := .type "tuple", data := .seq #[.int a t1, .int b t2, .int c t3] } : Obj)) ∈ led) (hq : (q, ({ cls := .type "tuple", data := .seq #[.int d t4, .int e t5, .int f t6] } : Obj)) ∈ led)
    (h : ∀ D h', Fr h₀ L h' m → News h₀ L h' ((D, { cls := .type "tuple", data := .seq #[.int a t1, .int b t2, .int c t3, .int d t4, .int e t5, .int f t6] }) :: led) → (∀ p ∈ led, p.1 < D) → Q (.ref D) { s with heap := h' }) :
    wpAny (model prog w) A (binaryOp .Add (.ref p) (.ref q)) Q E s := by
  refine kde_addT (zs := [.int a t1, .int b t2, .int c t3, .int d t4, .int e t5, .int f t6]) F N (News.isTup N hp) (News.isTup N hq) (by simp) (by simp) ?_ rfl ?_
  · show 3 + 3 ≤ 16384
    decide
  · intro D h' F' N' l1
    exact h D h' F' N' l1
end

section
variable {prog : Program} {w : World} {A : Around} {E : Value → Shared → Prop} {s : Shared} {h₀ : Heap} {L : Addr} {m : Str → Option Value} {cur tl : List (Addr × Obj)} {Q : Value → Shared → Prop}
theorem told_ne3 {T : Tel} {v : Value} {p : Addr} {y mo d h i sc : Int} {u1 u2 u3 u4 u5 u6 : Tok} (F : Fr h₀ L s.heap m) (N : News h₀ L s.heap cur)
    (hm : (p, ({ cls := .type "tuple", data := .seq #[.int y u1, .int mo u2, .int d u3, .int h u4, .int i u5, .int sc u6] } : Obj)) ∈ cur) (r : TelV T v tl) (e : T = .date y mo d h i sc) (s1 : ∀ p ∈ tl, p ∈ cur) (hu : A.units + 3 < cLine) (hq0 : Q (.bool false) s) :
    wpAny (model prog w) A (compareOp .NotEq v (.ref p)) Q E s := by
  subst e
  refine told_ne (T := .date y mo d h i sc) (telv_via r s1) (telv_via (T := .date y mo d h i sc) (tl := [_]) ⟨p, u1, u2, u3, u4, u5, u6, rfl, rfl⟩ ?_) True.intro F N hu hq0
  intro q hq
  rw [List.mem_singleton.mp hq]
  exact hm
end

theorem other_ok (x : Int) : [2, -1, 3, (1904 : Int)].getD (x.fmod 4).toNat 0 ≠ 0 ∧ [2, -1, 3, (1904 : Int)].getD (x.fmod 4).toNat 0 ≠ 1 := by
  rw [Int.fmod_eq_emod_of_nonneg _ (by decide)]
  have h : x % 4 = 0 ∨ x % 4 = 1 ∨ x % 4 = 2 ∨ x % 4 = 3 := by omega
  rcases h with h | h | h | h <;> rw [h] <;> decide

theorem base_1 : pDays 1904 1 1 = pBase 1 := by decide +kernel
theorem base_0 : pDays 1900 3 1 - 61 = pBase 0 := by decide +kernel
theorem top_1 : pDays 9999 12 31 + 1 - pDays 1904 1 1 = pTop 1 := by decide +kernel
theorem top_0 : pDays 9999 12 31 + 1 - (pDays 1900 3 1 - 61) = pTop 0 := by decide +kernel
theorem mod2 (x : Int) : x.fmod 2 = 0 ∨ x.fmod 2 = 1 := by
  rw [Int.fmod_eq_emod_of_nonneg _ (by decide)]; omega
theorem base_of {x m b t : Int} (hm : m = x.fmod 2) (h : (m = 1 ∧ b = pDays 1904 1 1) ∨ (m ≠ 1 ∧ b = pDays 1900 3 1 - 61)) (ht : t = pDays 9999 12 31 + 1 - b) : (m = 0 ∨ m = 1) ∧ b = pBase m ∧ t = pTop m := by
  have hx := mod2 x
  rw [← hm] at hx
  rcases h with ⟨rfl, rfl⟩ | ⟨h1, rfl⟩
  · exact ⟨.inr rfl, base_1, by rw [ht, top_1]⟩
  · rcases hx with e | e
    · rw [e]
      exact ⟨.inl rfl, base_0, by rw [ht, top_0]⟩
    · exact absurd e h1
end
-- lines of the walk
local macro_rules | `(tactic| walk_at "mine sub2") => `(tactic| (intro p9 hp9; simp only [List.mem_append, List.mem_cons, hp9, true_or, or_true]))
local macro_rules | `(tactic| walk_at "call builtin:list.append") => `(tactic| (k_here; k_dflt (refine' append_one ?F ?N ?hm ?_; (case F => k_asm); (case N => k_asm); (case hm => walk_at "mine mem"); intro h9 led9 F9 N9 hmA9 hmB9 hmC9; (try dsimp only); (try k_sweep))))
local macro_rules | `(tactic| walk_at "compareOp NotIn") => `(tactic| (k_here; k_dflt (refine' due_notin ?hd ?hv ?hT ?F ?N ?hu ?_; (case F => k_asm); (case N => k_asm); (case hd => with_reducible assumption); (case hv => assumption); (case hT => with_reducible assumption); (case hu => ktr_units); (try dsimp only))))
local macro_rules | `(tactic| walk_at "compareOp NotEq") => `(tactic| (k_here; k_dflt (refine' told_ne2 ?F ?N ?r ?e ?s1 ?hv ?s2 ?hT ?hu ?_; (case F => k_asm); (case N => k_asm); (case r => with_reducible assumption); (case e => assumption); (case hv => with_reducible assumption); (case hT => with_reducible assumption); (case hu => ktr_units); (case s1 => walk_at "mine sub2"); (case s2 => walk_at "mine sub2"); (try dsimp only))))
local macro_rules | `(tactic| walk_at "subscriptTail Name Constant ref int") => `(tactic| (k_here; (try dsimp only); k_dflt (refine' item_tupleT ?t ?a ?b ?c ?d ?_; (case t => exact News.isTup (by k_asm) (by walk_at "mine mem")); (case a => decide); (case b => decide); (case c => rfl); (case d => rfl); k_whole)))
local macro_rules | `(tactic| walk_at "compareOp Eq ref ref") => `(tactic| (k_here; k_dflt (refine' eq3_no ?F ?N ?hp ?hq ?hz ?hu ?_; (case F => k_asm); (case N => k_asm); (case hp => walk_at "mine mem"); (case hq => walk_at "mine mem"); (case hz => first | assumption | omega); (case hu => ktr_units); (try dsimp only))))
local macro_rules | `(tactic| walk_at "compareOp NotEq ref ref") => `(tactic| (k_here; k_dflt (refine' ne3_no ?F ?N ?hp ?hq ?hz ?hu ?_; (case F => k_asm); (case N => k_asm); (case hp => walk_at "mine mem"); (case hq => walk_at "mine mem"); (case hz => first | assumption | omega); (case hu => ktr_units); (try dsimp only))))
local macro_rules | `(tactic| walk_at "binaryOp Add ref ref") => `(tactic| (k_here; k_dflt (refine' add33 ?F ?N ?hp ?hq ?_; (case F => k_asm); (case N => k_asm); (case hp => walk_at "mine mem"); (case hq => walk_at "mine mem")); intro D' h' F' N' l1; (try k_lt l1); (try k_sweep)))
local macro_rules | `(tactic| walk_at "compareOp NotEq") => `(tactic| (k_here; k_dflt (refine' told_ne3 ?F ?N ?hm ?r ?e ?s1 ?hu ?_; (case F => k_asm); (case N => k_asm); (case hm => walk_at "mine mem"); (case r => with_reducible assumption); (case e => assumption); (case hu => ktr_units); (case s1 => walk_at "mine sub2"); (try dsimp only))))
section
def lexLt : List Int → List Int → Bool
  | a :: r, b :: r' => if a = b then lexLt r r' else decide (a < b)
  | _, _ => false
section
variable {prog : Program} {w : World} {A : Around} {E : Value → Shared → Prop} {s : Shared}
theorem tuple_lt_tree {x y : List Int} {a b : Addr} {xs ys : List Value} {P : Fin → Shared → Prop} (hx : IsTup s.heap a xs.toArray) (hy : IsTup s.heap b ys.toArray) (ix : IntsAre xs x) (iy : IntsAre ys y) (hl : x.length = y.length)
    (h : P (.done (.ret (.bool (lexLt x y)))) s) :
    wpAny (model prog w) A (Builtin.«tuple.__lt__» ⟨[.ref a, .ref b], []⟩) P E s := by
  have hTb := hy.typeIs
  have lx := ix.length
  have ly := iy.length
  show wpAny _ _ (isInstance (.ref b) (.type "tuple") >>= _) _ _ s
  refine wpAny_bind (wpAny_isInstance hTb isSubtype_tuple_tuple ?_)
  simp only [Bool.not_true, Bool.false_eq_true, if_false]
  refine wpAny_bind (tupleItemsOf_ hx ?_)
  refine wpAny_bind (tupleItemsOf_ hy ?_)
  refine wpAny_bind ?_
  refine wpAny_forIn_list _
    (fun rest r s' => r.1 = none ∧ s' = s ∧ ∃ x' y' xs' ys', rest = List.zip xs' ys' ∧ IntsAre xs' x' ∧ IntsAre ys' y' ∧ x'.length = y'.length ∧ lexLt x' y' = lexLt x y)
    _ ?_ ?_ _ _ ⟨rfl, rfl, x, y, xs, ys, rfl, ix, iy, hl, rfl⟩
  · rintro ⟨u, v⟩ rest r s' ⟨hr, rfl, x', y', xs', ys', hz, hx', hy', hlen, hdec⟩
    cases hx' with
    | nil => simp at hz
    | @cons k1 t1 xs'' x'' hx'' =>
      cases hy' with
      | nil => simp at hz
      | @cons k2 t2 ys'' y'' hy'' =>
        simp only [List.zip_cons_cons, List.cons.injEq, Prod.mk.injEq] at hz
        obtain ⟨⟨rfl, rfl⟩, rfl⟩ := hz
        refine wpAny_bind (wpAny_eqBool_int ?_)
        by_cases hk : k1 = k2
        · subst hk
          simp only [BEq.rfl, Bool.not_true, Bool.false_eq_true, if_false]
          refine wpAny_pure ⟨rfl, rfl, x'', y'', xs'', ys'', rfl, hx'', hy'', by simpa using hlen, ?_⟩
          rw [← hdec, lexLt, if_pos rfl]
        · have e1 : (k1 == k2) = false := by simpa using hk
          simp only [e1, Bool.not_false, if_true]
          have hf : lexLt x y = decide (k1 < k2) := by rw [← hdec, lexLt, if_neg hk]
          rw [hf] at h
          refine wpAny_bind (wpAny_rule ?_)
          refine wpAny_bind (show wpAny (model prog w) A (richCompare .Lt (.int k1 t1) (.int k2 t2)) _ E _ from wpAny_lt_int ?_)
          exact wpAny_bind (wpAny_pure (wpAny_pure (wpAny_pure h)))
  · rintro ⟨r1, r2⟩ s' ⟨hr, rfl, x', y', xs', ys', hz, hx', hy', hlen, hdec⟩
    simp only at hr
    subst hr
    have e0 : lexLt x y = false := by
      rw [← hdec]
      cases hx' with
      | nil => rfl
      | cons _ _ _ =>
        cases hy' with
        | nil => rfl
        | cons _ _ _ => simp at hz
    rw [e0] at h
    have hsz : xs.toArray.size = ys.toArray.size := by simp; omega
    refine wpAny_pure ?_
    show P (.done (.ret (Builtin.Tuple.tupleCompareSizes .Lt xs.toArray.size ys.toArray.size))) s'
    rw [hsz]
    have e2 : Builtin.Tuple.tupleCompareSizes .Lt ys.toArray.size ys.toArray.size = .bool false := by
      unfold Builtin.Tuple.tupleCompareSizes
      simp
    rw [e2]
    exact h
variable {h₀ : Heap} {L : Addr} {m : Str → Option Value} {led : List (Addr × Obj)} {Q : Value → Shared → Prop}
theorem lt66 {p q : Addr} {a b c d e f a' b' c' d' e' f' : Int} {t1 t2 t3 t4 t5 t6 u1 u2 u3 u4 u5 u6 : Tok} (F : Fr h₀ L s.heap m) (N : News h₀ L s.heap led)
    (hp : (p, ({ cls := .type "tuple", data := .seq #[.int a t1, .int b t2, .int c t3, .int d t4, .int e t5, .int f t6] } : Obj)) ∈ led)
    (hq : (q, ({ cls := .type "tuple", data := .seq #[.int a' u1, .int b' u2, .int c' u3, .int d' u4, .int e' u5, .int f' u6] } : Obj)) ∈ led)
    (hu : A.units + 3 < cLine) (h : Q (.bool (lexLt [a, b, c, d, e, f] [a', b', c', d', e', f'])) s) : wpAny (model prog w) A (compareOp .Lt (.ref p) (.ref q)) Q E s := by
  have hx : IsTup s.heap p [Value.int a t1, .int b t2, .int c t3, .int d t4, .int e t5, .int f t6].toArray := News.isTup N hp
  have hy : IsTup s.heap q [Value.int a' u1, .int b' u2, .int c' u3, .int d' u4, .int e' u5, .int f' u6].toArray := News.isTup N hq
  show wpAny (model prog w) A (richCompare .Lt (.ref p) (.ref q)) Q E s
  refine wpAny_richCompare_same_room hx.typeIs hy.typeIs PySem.F.slot_tuple_lt (wpAny_call_entry PySem.F.slot_tuple_lt hx.typeIs PySem.F.entry_tuple_lt ?_ (PySem.F.args_tuple_lt_2 _ _)) (by omega)
  exact tuple_lt_tree hx hy (.cons _ _ (.cons _ _ (.cons _ _ (.cons _ _ (.cons _ _ (.cons _ _ .nil)))))) (.cons _ _ (.cons _ _ (.cons _ _ (.cons _ _ (.cons _ _ (.cons _ _ .nil)))))) rfl ⟨_, rfl, ⟨(fun x => nomatch x), h⟩⟩
theorem via6 {p : Addr} {y mo d h i sc : Int} {u1 u2 u3 u4 u5 u6 : Tok} (hp : (p, ({ cls := .type "tuple", data := .seq #[.int y u1, .int mo u2, .int d u3, .int h u4, .int i u5, .int sc u6] } : Obj)) ∈ led) :
    ReadsVia h₀ led (.ref p) (telD (.date y mo d h i sc)) :=
  telv_via (T := .date y mo d h i sc) (tl := [_]) ⟨p, u1, u2, u3, u4, u5, u6, rfl, rfl⟩ (by intro q hq; rw [List.mem_singleton.mp hq]; exact hp)
theorem eqv6 {a b c d e f a' b' c' d' e' f' : Int} : PyData.eqv (telD (.date a b c d e f)) (telD (.date a' b' c' d' e' f')) = decide ([a, b, c, d, e, f] = [a', b', c', d', e', f']) := by
  rw [Bool.eq_iff_iff]
  simp [telD, PyData.eqv, PyData.eqvAll]
theorem eq66 {p q : Addr} {a b c d e f a' b' c' d' e' f' : Int} {t1 t2 t3 t4 t5 t6 u1 u2 u3 u4 u5 u6 : Tok} (F : Fr h₀ L s.heap m) (N : News h₀ L s.heap led)
    (hp : (p, ({ cls := .type "tuple", data := .seq #[.int a t1, .int b t2, .int c t3, .int d t4, .int e t5, .int f t6] } : Obj)) ∈ led)
    (hq : (q, ({ cls := .type "tuple", data := .seq #[.int a' u1, .int b' u2, .int c' u3, .int d' u4, .int e' u5, .int f' u6] } : Obj)) ∈ led)
    (hu : A.units + 3 < cLine) (h : Q (.bool (decide ([a, b, c, d, e, f] = [a', b', c', d', e', f']))) s) : wpAny (model prog w) A (compareOp .Eq (.ref p) (.ref q)) Q E s := by
  refine compareEq_via (via6 hp) (via6 hq) F N (telD_lay True.intro) (telD_lay True.intro) ?_ ?_
  · have := telD_depth (.date a b c d e f)
    omega
  · rw [eqv6]; exact h
theorem ne2b {p q : Addr} {a b c d : Bool} (F : Fr h₀ L s.heap m) (N : News h₀ L s.heap led)
    (hp : (p, ({ cls := .type "tuple", data := .seq #[.bool a, .bool b] } : Obj)) ∈ led) (hq : (q, ({ cls := .type "tuple", data := .seq #[.bool c, .bool d] } : Obj)) ∈ led)
    (e1 : a = c) (e2 : b = d) (hu : A.units + 3 < cLine) (h : Q (.bool false) s) : wpAny (model prog w) A (compareOp .NotEq (.ref p) (.ref q)) Q E s := by
  subst e1 e2
  refine compareNe_via (da := .tuple [.bool a, .bool b]) (db := .tuple [.bool a, .bool b]) (ReadsVia.tuple (vs := [.bool a, .bool b]) hp (.cons (.bool _) (.cons (.bool _) .nil))) (ReadsVia.tuple (vs := [.bool a, .bool b]) hq (.cons (.bool _) (.cons (.bool _) .nil))) F N ?_ ?_ ?_ ?_
  · simp [PyData.canLay0, PyData.canLayAll0]
  · simp [PyData.canLay0, PyData.canLayAll0]
  · simp only [PyData.depth, PyData.depthAll, Nat.max_self, Nat.min_self]; omega
  · have e : PyData.eqv (.tuple [.bool a, .bool b]) (.tuple [.bool a, .bool b]) = true := by simp [PyData.eqv, PyData.eqvAll]
    rw [e]
    exact h
end
end
-- lines of the walk
local macro_rules | `(tactic| walk_at "compareOp Lt ref ref") => `(tactic| (k_here; k_dflt (refine' lt66 ?F ?N ?hp ?hq ?hu ?_; (case F => k_asm); (case N => k_asm); (case hp => walk_at "mine mem"); (case hq => walk_at "mine mem"); (case hu => ktr_units); (try dsimp only))))
local macro_rules | `(tactic| walk_at "compareOp Eq ref ref") => `(tactic| (k_here; k_dflt (refine' eq66 ?F ?N ?hp ?hq ?hu ?_; (case F => k_asm); (case N => k_asm); (case hp => walk_at "mine mem"); (case hq => walk_at "mine mem"); (case hu => ktr_units); (try dsimp only))))
local macro_rules | `(tactic| walk_at "compareOp NotEq ref ref") => `(tactic| (k_here; k_dflt (refine' ne2b ?F ?N ?hp ?hq ?e1 ?e2 ?hu ?_; (case F => k_asm); (case N => k_asm); (case hp => walk_at "mine mem"); (case hq => walk_at "mine mem"); (case e1 => with_reducible assumption); (case e2 => with_reducible assumption); (case hu => ktr_units); (try dsimp only))))
section
open PySem.Calls
section
variable {prog : Program} {w : World} {A : Around} {E : Value → Shared → Prop} {s : Shared} {env : Env} {h₀ : Heap} {x : Str} {body : List Stmt} {Q : Flow → Shared → Prop}
/-- where a turn of a for ends: the named locals hold what `ps` says of a state that `P` speaks of; what the state has made lies on the ledger -/
def ForEnd {σ : Type} (h₀ : Heap) (L : Addr) (ps : σ → List (Str × Value)) (Led : σ → List (Addr × Obj)) (P : σ → Prop) (own : List (Addr × Obj)) (s s₂ : Shared) : Prop :=
  ∃ (c : σ) (h' : Heap) (tk : Nat) (m' : Str → Option Value), s₂ = { s with heap := h', toks := tk } ∧ Fr h₀ L h' m' ∧ News h₀ L h' (Led c ++ own) ∧ Has m' (ps c) ∧ P c
def ForPost {σ : Type} (h₀ : Heap) (L : Addr) (ps : σ → List (Str × Value)) (Led : σ → List (Addr × Obj)) (P : σ → Prop) (own : List (Addr × Obj)) (s : Shared) (Q : Flow → Shared → Prop) (f : Flow) (s₂ : Shared) : Prop :=
  match f with
  | .ret v => Q (.ret v) s₂
  | .brk => Q .next s₂
  | _ => ForEnd h₀ L ps Led P own s s₂
/-- a loop over a made list of ints, by what holds of a state whose objects may lie elsewhere after each turn -/
theorem my_for {σ : Type} {l : Addr} {vs : List Value} {ns : List Int} {nn : Nat} {m₀ : Str → Option Value} {news : List (Addr × Obj)} (ps : σ → List (Str × Value)) (Led : σ → List (Addr × Obj)) (P : σ → Prop) (c₀ : σ)
    (hh : A.handled = none) (hl : (l, listOf vs.toArray nn) ∈ news) (hi : IntsAre vs ns) (F : Fr h₀ env.locals s.heap m₀) (N : News h₀ env.locals s.heap news) (hk : Has m₀ (ps c₀)) (hled : ∀ p ∈ Led c₀, p ∈ news)
    (htup : ∀ c, P c → ∀ p ∈ Led c, p.2.cls = .type "tuple") (hp : P c₀)
    (turn : ∀ n t c u h tk own, n ∈ ns → P c → Fr h₀ env.locals h (fun y => if y = x then some (.int n t) else kstB u (ps c) y) → News h₀ env.locals h (Led c ++ own) →
      wpAny (model prog w) A (execs body env) (ForPost h₀ env.locals ps Led P own { s with heap := h, toks := tk } Q) E { s with heap := h, toks := tk })
    (done : ∀ c u h tk, P c → Fr h₀ env.locals h (kstB u (ps c)) → News h₀ env.locals h (Led c) → Q .next { s with heap := h, toks := tk }) :
    wpAny (model prog w) A (pyIter (.ref l)) (fun it s₂ => LoopAtV prog w A h₀ env x body Q E it s₂) E s := by
  have hol : s.heap.get? l = some (listOf vs.toArray nn) := (N _ hl).1
  have hls : s.heap.IsList l vs.toArray := ⟨_, hol, rfl, nn, rfl⟩
  have hne : l ≠ s.heap.objs.size := Nat.ne_of_lt (Heap.lt_size hol)
  refine wpAny_pyIter_list hls ?_
  have W := Walks.list (prog := prog) (w := w) hh s.heap.objs.size l hne vs.toArray
  have hlen : vs.toArray.size = ns.length := by simp [hi.length]
  rw [hlen] at W
  refine ⟨_, _, _, ns.length, _, _, m₀, Led c₀, (fun _ m nx => ∃ c, nx = Led c ∧ Has m (ps c) ∧ P c), rfl, W, ?_, ?_, ?_, ⟨⟨_, Heap.get?_push_size _ rfl, rfl, rfl⟩, hls.at fun o e => Heap.get?_push_of_some _ e⟩, F.push _, (fun p hp => ⟨Heap.get?_push_of_some _ (N p (hled p hp)).1, (N p (hled p hp)).2⟩), ⟨c₀, rfl, hk, hp⟩, ?_, ?_⟩
  · intro hm
    rcases List.mem_cons.mp hm with e | hm
    · exact absurd F.ns.lt (e ▸ Nat.lt_irrefl _)
    · exact (N _ hl).2.1 ((List.mem_singleton.mp hm).symm)
  · intro b hb
    rw [List.mem_singleton.mp hb]
    exact next_is_new F
  · intro p hp hI
    exact absurd (Heap.lt_size (N p (hled p hp)).1) ((List.mem_singleton.mp hI) ▸ Nat.lt_irrefl _)
  · rintro i v m₁ news₁ s₁ own ⟨hh', tk', rfl⟩ hin hP ⟨c, rfl, hm, hc⟩ hoff hown hget hfp hst F₁ N₁
    have hlt' : i < ns.length := hin
    obtain ⟨t, hx⟩ := hi.get i ns[i] (by simp [hlt'])
    have hv : v = .int ns[i] t := by
      have hP' : vs[i]? = some v := by simpa using hP
      rw [hx] at hP'; exact (Option.some.inj hP').symm
    subst hv
    have N₂ : News h₀ env.locals hh' (Led c ++ own) := fun p hp => N₁ p ((List.mem_append.mp hp).elim (fun h => List.mem_append.mpr (.inr h)) fun h => List.mem_append.mpr (.inl h))
    have em : kstB m₁ (ps c) = m₁ := by
      funext y
      exact kstB_eq hm.all fun _ => rfl
    have F₂ : Fr h₀ env.locals hh' (fun y => if y = x then some (.int ns[i] t) else kstB m₁ (ps c) y) := by
      rw [em]; exact F₁
    refine wpAny_mono (turn ns[i] t c m₁ hh' tk' own (List.getElem_mem hlt') hc F₂ N₂) (fun f s₂ p => ?_) fun _ _ e => e
    have fin : ForEnd h₀ env.locals ps Led P own { s with heap := hh', toks := tk' } s₂ →
        LoopStepU h₀ env.locals [s.heap.objs.size] own (fun m nx => ∃ c, nx = Led c ∧ Has m (ps c) ∧ P c) { s with heap := hh', toks := tk' } .next s₂ := by
      rintro ⟨c', h', tk, m', e, F', N', hk', hp'⟩
      refine ⟨rfl, h', tk, m', Led c', e, F', fun p hp => N' p ((List.mem_append.mp hp).elim (fun h => List.mem_append.mpr (.inr h)) fun h => List.mem_append.mpr (.inl h)), fun p hp hI => ?_, c', rfl, hk', hp'⟩
      obtain ⟨o, ho, hc1, _⟩ := hst.1
      have hmem := hfp s.heap.objs.size (.head _) (next_is_new F) o ho
      have g1 := (N' p (List.mem_append.mpr (.inl hp))).1
      have g2 := (N' _ (List.mem_append.mpr (.inr hmem))).1
      rw [List.mem_singleton.mp hI] at g1
      have e2 : p.2 = o := Option.some.inj (g1.symm.trans g2)
      have e3 := htup c' hp' p hp
      rw [e2, hc1] at e3
      exact absurd (Value.type.inj e3) (by decide)
    cases f with
    | ret v => exact .ret p
    | brk => exact .brk p
    | next => exact .next (fin p)
    | cont => exact .cont (fin p)
  · rintro h' tk m' news' F' N' _ ⟨c, rfl, hm, hc⟩
    refine done c m' h' tk hc ?_ N'
    exact kst_forget hm.all F'
theorem for_false {px pos : Pos} {iter : Expr} (h₀ : Heap) (hx : env.kindOf x = some .local)
    (hp : (env.scope.kind == .class || (env.scope.kind == .module && env.locals != env.globals)) = false)
    (hs : ∀ x, foldedSetIterable iter env x = pure x)
    (h : wpAny (model prog w) A (eval iter env) (fun xv s₁ => wpAny (model prog w) A (pyIter xv) (fun it s₂ => LoopAtV prog w A h₀ env x body Q (fun _ _ => False) it s₂) (fun _ _ => False) s₁) (fun _ _ => False) s) :
    wpAny (model prog w) A (exec (.For (.Name x px) iter body [] pos) env) Q E s :=
  wpAny_mono (For_invV h₀ hx hp h hs PassesOwn.never) (fun _ _ x => x) fun _ _ x => x.elim
/-- where a test ends -/
def IfPost (bb : Bool) (h₀ : Heap) (L : Addr) (m : Str → Option Value) (led : List (Addr × Obj)) (s : Shared) (b : Bool) (s₂ : Shared) : Prop :=
  b = bb ∧ ∃ (h' : Heap) (tk : Nat), s₂ = { s with heap := h', toks := tk } ∧ Fr h₀ L h' m ∧ News h₀ L h' led
theorem if_end {bb : Bool} {h₀ : Heap} {L : Addr} {m : Str → Option Value} {led : List (Addr × Obj)} {s : Shared} {h' : Heap} {tk : Nat} {g : Array GenState} {d : Drawn} {o : OsState}
    (F : Fr h₀ L h' m) (N : News h₀ L h' led) (eg : g = s.gens) (ed : d = s.drawn) (eo : o = s.os) : IfPost bb h₀ L m led s bb ⟨h', g, d, tk, o⟩ := ⟨rfl, h', tk, by subst eg ed eo; rfl, F, N⟩
theorem if_seg {test : Expr} {bd orelse : List Stmt} {pos : Pos} (bb : Bool) {L : Addr} {m : Str → Option Value} {led : List (Addr × Obj)}
    (h1 : wpAny (model prog w) A (isTrue test env (eval test env)) (IfPost bb h₀ L m led s) E s)
    (h2 : ∀ h' tk, Fr h₀ L h' m → News h₀ L h' led → wpAny (model prog w) A (execs (if bb = true then bd else orelse) env) Q E { s with heap := h', toks := tk }) :
    wpAny (model prog w) A (exec (.If test bd orelse pos) env) Q E s := by
  rw [exec_If]
  refine wpAny_bind (wpAny_standAt (wpAny_bind (wpAny_mono h1 (fun b s₂ p => ?_) fun _ _ x => x)))
  obtain ⟨rfl, h', tk, rfl, F, N⟩ := p
  have h3 := h2 h' tk F N
  cases b with
  | true => simpa using h3
  | false => simpa using h3
end

theorem nums_ok {ks : List Int} {n : Int} (hn : n ∈ List.map (fun k' => k'.fmod 1000000000000000) ks ++ [0, 113, 137, 421586, 11567586, 4438782, 3]) : 0 ≤ n ∧ n < 1000000000000000 := by
  rcases List.mem_append.mp hn with hn | hn
  · obtain ⟨k, _, rfl⟩ := List.mem_map.mp hn
    rw [Int.fmod_eq_emod_of_nonneg _ (by decide)]
    omega
  · have h : ∀ x ∈ [0, 113, 137, 421586, 11567586, 4438782, (3 : Int)], 0 ≤ x ∧ x < 1000000000000000 := by decide
    exact h n hn
end
/-- the walk begins as in a file of its own -/
theorem freshS0 : True := by w_top off; exact True.intro
section
set_option maxRecDepth 100000 in
set_option maxHeartbeats 8000000 in
theorem s_r0 (w : World) (mean : ExcName → Option Value) (mg mb : Str → Option Value) (a : Addr) (ccd : Value) (h₀ : Heap) (L : Addr) (u : Str → Option Value) (news : List (Addr × Obj)) (s : Shared) (Q : Flow → Shared → Prop) (E : Value → Shared → Prop)
    (B : Below callerA h₀ [] h₀) (X : (hd.heap_39 w.params).In h₀) (T : Top hd.view_39 (looseW hd.view_39 [Str.ofString "_law_edges"]) mean mg mb h₀)
    (mode : Int) (bv : Value) (t1 t2 t3 : Tok) (hm : mode = 0 ∨ mode = 1) (kind rest : Int) (t4 t5 : Tok) (hr : 0 ≤ rest ∧ rest < 1000000000000000)
    (F : Fr h₀ L s.heap (kstB u [(Str.ofString "mode", .int mode t1), (Str.ofString "base", .int (pBase mode) t2), (Str.ofString "top", .int (pTop mode) t3), (Str.ofString "before", bv), (Str.ofString "kind", .int kind t4), (Str.ofString "rest", .int rest t5)])) (N : News h₀ L s.heap news)
    (next : ∀ whole part t6 t7 u h tk, -1 ≤ whole ∧ whole < 2958500 → 0 ≤ part ∧ part < 262144 → Fr h₀ L h (kstB u [(Str.ofString "mode", .int mode t1), (Str.ofString "base", .int (pBase mode) t2), (Str.ofString "top", .int (pTop mode) t3), (Str.ofString "before", bv), (Str.ofString "whole", .int whole t6), (Str.ofString "part", .int part t7)]) → News h₀ L h news → wpAny (model PySem.Challenge.rw_fe0353_01.row.prog w) (callerA.deeper (lawE L a ccd)) (execs (readBody.drop 1) (lawE L a ccd)) Q E { s with heap := h, toks := tk }) :
    wpAny (model PySem.Challenge.rw_fe0353_01.row.prog w) (callerA.deeper (lawE L a ccd)) (execs readBody (lawE L a ccd)) Q E s := by
  unfold lawE
  conv in (occs := *) lawS => all_goals whnf
  dsimp only
  revert X; k_fill; intro X
  refine my_seg (σ := Int × Tok × Int × Tok) (h₀ := h₀) (L := L) 1 (fun c => [(Str.ofString "mode", .int mode t1), (Str.ofString "base", .int (pBase mode) t2), (Str.ofString "top", .int (pTop mode) t3), (Str.ofString "before", bv), (Str.ofString "whole", .int c.1 c.2.1), (Str.ofString "part", .int c.2.2.1 c.2.2.2)]) (fun _ => news) (fun c => (-1 ≤ c.1 ∧ c.1 < 2958500) ∧ 0 ≤ c.2.2.1 ∧ c.2.2.1 < 262144) ?_ ?_
  rotate_left
  · rintro ⟨c1, c2, c3, c4⟩ u9 h9 tk9 hP F9 N9
    exact next _ _ _ _ u9 h9 tk9 hP.1 hP.2 F9 N9
  conv in (readBody) => whnf
  simp only [List.take_succ_cons, List.take_zero]
  k_steps
  all_goals (refine cut_end (_, _, _, _) (by k_asm) (by walk_at "mine news") (by (try dsimp only); walk_at "mine has") ?_ rfl rfl rfl; dsimp only)
  · exact r0_a
  · exact r0_b hm _ _
end
/-- the walk begins as in a file of its own -/
theorem freshS1 : True := by w_top off; exact True.intro
section
set_option maxRecDepth 100000 in
set_option maxHeartbeats 8000000 in
theorem s_r1 (w : World) (mean : ExcName → Option Value) (mg mb : Str → Option Value) (a : Addr) (ccd : Value) (h₀ : Heap) (L : Addr) (u : Str → Option Value) (news : List (Addr × Obj)) (s : Shared) (Q : Flow → Shared → Prop) (E : Value → Shared → Prop)
    (B : Below callerA h₀ [] h₀) (X : (hd.heap_39 w.params).In h₀) (T : Top hd.view_39 (looseW hd.view_39 [Str.ofString "_law_edges"]) mean mg mb h₀)
    (mode : Int) (bv : Value) (t1 t2 t3 : Tok) (hm : mode = 0 ∨ mode = 1) (whole part S : Int) (t6 t7 : Tok) (hp : -1 ≤ whole ∧ whole < 2958500) (hq : 0 ≤ part ∧ part < 262144) (hS : 0 ≤ S ∧ S ≤ 86400) (hs1 : (part * 675).fmod 2048 < 1024 → S = (part * 675).fdiv 2048) (hs2 : 1024 < (part * 675).fmod 2048 → S = (part * 675).fdiv 2048 + 1) (hs3 : (part * 675).fmod 2048 = 1024 → S = (part * 675).fdiv 2048 ∨ S = (part * 675).fdiv 2048 + 1) (hsec : 0 ≤ (part * 675).fdiv 2048 ∧ (part * 675).fdiv 2048 ≤ 86399)
    (F : Fr h₀ L s.heap (kstB u [(Str.ofString "mode", .int mode t1), (Str.ofString "base", .int (pBase mode) t2), (Str.ofString "top", .int (pTop mode) t3), (Str.ofString "before", bv), (Str.ofString "whole", .int whole t6), (Str.ofString "part", .int part t7)])) (N : News h₀ L s.heap news)
    (next : ∀ D ds led u h tk, DueOk h₀ led D ds (pRead whole S mode) → (∀ p ∈ news, p ∈ led) → Fr h₀ L h (kstB u [(Str.ofString "mode", .int mode t1), (Str.ofString "base", .int (pBase mode) t2), (Str.ofString "top", .int (pTop mode) t3), (Str.ofString "before", bv), (Str.ofString "whole", .int whole t6), (Str.ofString "part", .int part t7), (Str.ofString "due", D)]) → News h₀ L h led → wpAny (model PySem.Challenge.rw_fe0353_01.row.prog w) (callerA.deeper (lawE L a ccd)) (execs (readBody.drop 6) (lawE L a ccd)) Q E { s with heap := h, toks := tk })
    (hcont : ∀ h tk m, Fr h₀ L h m → News h₀ L h news → Has m [(Str.ofString "mode", .int mode t1), (Str.ofString "base", .int (pBase mode) t2), (Str.ofString "top", .int (pTop mode) t3), (Str.ofString "before", bv)] → Q .cont { s with heap := h, toks := tk }) :
    wpAny (model PySem.Challenge.rw_fe0353_01.row.prog w) (callerA.deeper (lawE L a ccd)) (execs (readBody.drop 1) (lawE L a ccd)) Q E s := by
  unfold lawE
  conv in (occs := *) lawS => all_goals whnf
  dsimp only
  revert X; k_fill; intro X
  refine my_seg (σ := Value × List PyData × List (Addr × Obj)) (h₀ := h₀) (L := L) 5 (fun c => [(Str.ofString "mode", .int mode t1), (Str.ofString "base", .int (pBase mode) t2), (Str.ofString "top", .int (pTop mode) t3), (Str.ofString "before", bv), (Str.ofString "whole", .int whole t6), (Str.ofString "part", .int part t7), (Str.ofString "due", c.1)]) (fun c => c.2.2) (fun c => DueOk h₀ c.2.2 c.1 c.2.1 (pRead whole S mode) ∧ ∀ p ∈ news, p ∈ c.2.2) ?_ ?_
  rotate_left
  · rintro ⟨c1, c2, c3⟩ u9 h9 tk9 hP F9 N9
    exact next _ _ _ u9 h9 tk9 hP.1 hP.2 F9 N9
  conv in (readBody) => whnf
  simp only [List.take_succ_cons, List.take_zero, List.drop_succ_cons, List.drop_zero]
  k_steps
  all_goals try (exact hcont _ _ _ (by k_asm) (by refine news_drop' ?_ (by assumption); walk_at "mine sub2") (by walk_at "mine has"))
  all_goals try (have e9 := hs2 (by assumption); subst e9; refine cut_end (_, _, _) (by k_asm) (by assumption) (by (try dsimp only); walk_at "mine has") ⟨due_one (by walk_at "mine mem") (telv_via (by assumption) (by walk_at "mine sub2")) (pRead_ok _ _ _), by walk_at "mine sub2"⟩ rfl rfl rfl)
  all_goals try (have e9 := hs1 (by omega); subst e9; simp only [Int.add_zero] at *; refine cut_end (_, _, _) (by k_asm) (by assumption) (by (try dsimp only); walk_at "mine has") ⟨due_one (by walk_at "mine mem") (telv_via (by assumption) (by walk_at "mine sub2")) (pRead_ok _ _ _), by walk_at "mine sub2"⟩ rfl rfl rfl)
  all_goals (rcases hs3 (by assumption) with e9 | e9 <;> subst e9 <;> simp only [Int.add_zero] at * <;> exact cut_end (_, _, _) (by k_asm) (by assumption) (by (try dsimp only); walk_at "mine has") (due_app (by assumption) (by assumption) (by assumption) (by assumption) (by assumption) (by assumption) (pRead_ok _ _ _) (pRead_ok _ _ _) (by first | exact .inl rfl | exact .inr rfl)) rfl rfl rfl)
end
/-- the walk begins as in a file of its own -/
theorem freshS2 : True := by w_top off; exact True.intro
section
local macro_rules | `(tactic| walk_at "call ref") => `(tactic| (k_here; k_dflt (refine' conL_use (c_read _ ?kp ?kq) ?k1 ?k2 ?k3 ?k4 ?k5 ?kK ?kn ?kd ?ku ?_; (case k1 => k_asm); (case k2 => k_asm); (case k3 => k_asm); (case k4 => k_asm); (case k5 => k_asm); (case kK => first | assumption | exact rfl); (case kd => ktr_room); (case ku => ktr_units); (case kn => first | trivial | k_mem | walk_at "mine mem"); (case kp => first | assumption | (exact vr2 (by assumption) (by assumption)) | (exact vr1 (by assumption) (by omega))); (case kq => first | assumption | omega); intro v9 tl9 h9 tk9 r9 F9 N9; skip; (try dsimp only [List.nil_append, List.cons_append] at N9); (try dsimp only); (try k_fold); (try k_sweep))))
set_option maxRecDepth 100000 in
set_option maxHeartbeats 8000000 in
theorem s_r2 (w : World) (mean : ExcName → Option Value) (mg mb : Str → Option Value) (a : Addr) (ccd : Value) (h₀ : Heap) (L : Addr) (u : Str → Option Value) (news : List (Addr × Obj)) (s : Shared) (Q : Flow → Shared → Prop) (E : Value → Shared → Prop)
    (B : Below callerA h₀ [] h₀) (X : (hd.heap_39 w.params).In h₀) (T : Top hd.view_39 (looseW hd.view_39 [Str.ofString "_law_edges"]) mean mg mb h₀)
    (mode : Int) (bv : Value) (t1 t2 t3 : Tok) (hm : mode = 0 ∨ mode = 1) (whole part S : Int) (t6 t7 : Tok) (hp : -1 ≤ whole ∧ whole < 2958500) (hq : 0 ≤ part ∧ part < 262144) (D : Value) (ds : List PyData) (led : List (Addr × Obj)) (hsub : ∀ p ∈ news, p ∈ led) (hdue : DueOk h₀ led D ds (pRead whole S mode)) (hv1 : part = 0 → ∀ t, VR (.int whole t) whole S)
    (hv2 : 0 < part → ∀ t, VR (.float (pX whole part) t) whole S)
    (F : Fr h₀ L s.heap (kstB u [(Str.ofString "mode", .int mode t1), (Str.ofString "base", .int (pBase mode) t2), (Str.ofString "top", .int (pTop mode) t3), (Str.ofString "before", bv), (Str.ofString "whole", .int whole t6), (Str.ofString "part", .int part t7), (Str.ofString "due", D)])) (N : News h₀ L s.heap led)
    (next : ∀ v tl led u h tk, DueOk h₀ led D ds (pRead whole S mode) → ToldOk led v (pRead whole S mode) tl → (∀ p ∈ news, p ∈ led) → Fr h₀ L h (kstB u [(Str.ofString "mode", .int mode t1), (Str.ofString "base", .int (pBase mode) t2), (Str.ofString "top", .int (pTop mode) t3), (Str.ofString "before", bv), (Str.ofString "due", D), (Str.ofString "told", v)]) → News h₀ L h led → wpAny (model PySem.Challenge.rw_fe0353_01.row.prog w) (callerA.deeper (lawE L a ccd)) (execs (readBody.drop 7) (lawE L a ccd)) Q E { s with heap := h, toks := tk })
    (hcont : ∀ h tk m, Fr h₀ L h m → News h₀ L h news → Has m [(Str.ofString "mode", .int mode t1), (Str.ofString "base", .int (pBase mode) t2), (Str.ofString "top", .int (pTop mode) t3), (Str.ofString "before", bv)] → Q .cont { s with heap := h, toks := tk }) :
    wpAny (model PySem.Challenge.rw_fe0353_01.row.prog w) (callerA.deeper (lawE L a ccd)) (execs (readBody.drop 6) (lawE L a ccd)) Q E s := by
  unfold lawE
  conv in (occs := *) lawS => all_goals whnf
  dsimp only
  revert X; k_fill; intro X
  refine my_seg (σ := Value × List (Addr × Obj)) (h₀ := h₀) (L := L) 1 (fun c => [(Str.ofString "mode", .int mode t1), (Str.ofString "base", .int (pBase mode) t2), (Str.ofString "top", .int (pTop mode) t3), (Str.ofString "before", bv), (Str.ofString "due", D), (Str.ofString "told", c.1)]) (fun c => c.2) (fun c => DueOk h₀ c.2 D ds (pRead whole S mode) ∧ (∃ tl, ToldOk c.2 c.1 (pRead whole S mode) tl) ∧ ∀ p ∈ news, p ∈ c.2) ?_ ?_
  rotate_left
  · rintro ⟨c1, c2⟩ u9 h9 tk9 ⟨hP1, ⟨tl9, hP2⟩, hP3⟩ F9 N9
    exact next _ _ _ u9 h9 tk9 hP1 hP2 hP3 F9 N9
  conv in (readBody) => whnf
  simp only [List.take_succ_cons, List.take_zero, List.drop_succ_cons, List.drop_zero]
  k_steps
  all_goals (refine cut_end (_, _) (by k_asm) (by assumption) (by (try dsimp only); walk_at "mine has") ?_ rfl rfl rfl; dsimp only)
  all_goals exact ⟨hdue.more (by walk_at "mine sub2"), ⟨_, ⟨by assumption, by walk_at "mine sub2"⟩⟩, fun p hp => List.mem_append_right _ (hsub p hp)⟩
end
/-- the walk begins as in a file of its own -/
theorem freshS3 : True := by w_top off; exact True.intro
section
local macro_rules | `(tactic| walk_at "call ref") => `(tactic| (k_here; k_dflt (refine' conL_use (c_read _ ?kp ?kq) ?k1 ?k2 ?k3 ?k4 ?k5 ?kK ?kn ?kd ?ku ?_; (case k1 => k_asm); (case k2 => k_asm); (case k3 => k_asm); (case k4 => k_asm); (case k5 => k_asm); (case kK => first | assumption | exact rfl); (case kd => ktr_room); (case ku => ktr_units); (case kn => first | trivial | k_mem | walk_at "mine mem"); (case kp => first | assumption | (exact vr2 (by assumption) (by assumption)) | (exact vr1 (by assumption) (by omega))); (case kq => first | assumption | omega); intro v9 tl9 h9 tk9 r9 F9 N9; skip; (try dsimp only [List.nil_append, List.cons_append] at N9); (try dsimp only); (try k_fold); (try k_sweep))))
set_option maxRecDepth 100000 in
set_option maxHeartbeats 8000000 in
theorem s_r3t (w : World) (mean : ExcName → Option Value) (mg mb : Str → Option Value) (a : Addr) (ccd : Value) (h₀ : Heap) (L : Addr) (u : Str → Option Value) (news : List (Addr × Obj)) (s : Shared) (Q : Flow → Shared → Prop) (E : Value → Shared → Prop)
    (B : Below callerA h₀ [] h₀) (X : (hd.heap_39 w.params).In h₀) (T : Top hd.view_39 (looseW hd.view_39 [Str.ofString "_law_edges"]) mean mg mb h₀)
    (mode : Int) (bv : Value) (t1 t2 t3 : Tok) (hm : mode = 0 ∨ mode = 1) (D : Value) (ds : List PyData) (led : List (Addr × Obj)) (hsub : ∀ p ∈ news, p ∈ led) (x : Str) (t5 : Tok) (hx : telOk (.text x)) (hdue : DueOk h₀ led D ds (.text x)) (hv : ReadsVia h₀ led (.str x t5) (telD (.text x)))
    (F : Fr h₀ L s.heap (kstB u [(Str.ofString "mode", .int mode t1), (Str.ofString "base", .int (pBase mode) t2), (Str.ofString "top", .int (pTop mode) t3), (Str.ofString "before", bv), (Str.ofString "due", D), (Str.ofString "told", .str x t5)])) (N : News h₀ L s.heap led)
    (hcont : ∀ h tk m, Fr h₀ L h m → News h₀ L h news → Has m [(Str.ofString "mode", .int mode t1), (Str.ofString "base", .int (pBase mode) t2), (Str.ofString "top", .int (pTop mode) t3), (Str.ofString "before", bv)] → Q .cont { s with heap := h, toks := tk }) :
    wpAny (model PySem.Challenge.rw_fe0353_01.row.prog w) (callerA.deeper (lawE L a ccd)) (execs (readBody.drop 7) (lawE L a ccd)) Q E s := by
  unfold lawE
  conv in (occs := *) lawS => all_goals whnf
  dsimp only
  revert X; k_fill; intro X
  conv in (readBody) => whnf
  simp only [List.drop_succ_cons, List.drop_zero]
  k_steps
  all_goals exact hcont _ _ _ (by k_asm) (by refine news_drop' ?_ (by assumption); intro p9 hp9; have hp9 := hsub p9 hp9; simp only [List.mem_append, List.mem_cons, hp9, true_or, or_true]) (by walk_at "mine has")
set_option maxRecDepth 100000 in
set_option maxHeartbeats 8000000 in
theorem s_r3z (w : World) (mean : ExcName → Option Value) (mg mb : Str → Option Value) (a : Addr) (ccd : Value) (h₀ : Heap) (L : Addr) (u : Str → Option Value) (news : List (Addr × Obj)) (s : Shared) (Q : Flow → Shared → Prop) (E : Value → Shared → Prop)
    (B : Below callerA h₀ [] h₀) (X : (hd.heap_39 w.params).In h₀) (T : Top hd.view_39 (looseW hd.view_39 [Str.ofString "_law_edges"]) mean mg mb h₀)
    (mode : Int) (bv : Value) (t1 t2 t3 : Tok) (hm : mode = 0 ∨ mode = 1) (D : Value) (ds : List PyData) (led : List (Addr × Obj)) (hsub : ∀ p ∈ news, p ∈ led) (p : Addr) (y mo d h i sc : Int) (u1 u2 u3 u4 u5 u6 : Tok) (hm6 : (p, ({ cls := .type "tuple", data := .seq #[.int y u1, .int mo u2, .int d u3, .int h u4, .int i u5, .int sc u6] } : Obj)) ∈ led) (hy : y ≤ 0) (hdue : DueOk h₀ led D ds (.date y mo d h i sc)) (hv : ReadsVia h₀ led (.ref p) (telD (.date y mo d h i sc)))
    (F : Fr h₀ L s.heap (kstB u [(Str.ofString "mode", .int mode t1), (Str.ofString "base", .int (pBase mode) t2), (Str.ofString "top", .int (pTop mode) t3), (Str.ofString "before", bv), (Str.ofString "due", D), (Str.ofString "told", .ref p)])) (N : News h₀ L s.heap led)
    (hcont : ∀ h tk m, Fr h₀ L h m → News h₀ L h news → Has m [(Str.ofString "mode", .int mode t1), (Str.ofString "base", .int (pBase mode) t2), (Str.ofString "top", .int (pTop mode) t3), (Str.ofString "before", bv)] → Q .cont { s with heap := h, toks := tk }) :
    wpAny (model PySem.Challenge.rw_fe0353_01.row.prog w) (callerA.deeper (lawE L a ccd)) (execs (readBody.drop 7) (lawE L a ccd)) Q E s := by
  unfold lawE
  conv in (occs := *) lawS => all_goals whnf
  dsimp only
  revert X; k_fill; intro X
  have hx : telOk (.date y mo d h i sc) := True.intro
  conv in (readBody) => whnf
  simp only [List.drop_succ_cons, List.drop_zero]
  k_steps
  all_goals exact hcont _ _ _ (by k_asm) (by refine news_drop' ?_ (by assumption); intro p9 hp9; have hp9 := hsub p9 hp9; simp only [List.mem_append, List.mem_cons, hp9, true_or, or_true]) (by walk_at "mine has")
end
/-- the walk begins as in a file of its own -/
theorem freshS4 : True := by w_top off; exact True.intro
section
local macro_rules | `(tactic| walk_at "call ref") => `(tactic| (k_here; k_dflt (refine' con_use (c_fromd0 _ _ _ _ _ _ ?kp) ?k1 ?k2 ?k3 ?k4 ?k5 ?kK ?kn ?kd ?ku ?_; (case k1 => k_asm); (case k2 => k_asm); (case k3 => k_asm); (case k4 => k_asm); (case k5 => k_asm); (case kK => first | assumption | exact rfl); (case kd => ktr_room); (case ku => ktr_units); (case kn => first | trivial | k_mem | walk_at "mine mem"); (case kp => first | assumption | omega); intro v9 tl9 h9 tk9 r9 F9 N9; obtain ⟨e9, t9, f9⟩ := r9; subst e9 f9; (try dsimp only [List.nil_append, List.cons_append] at N9); (try dsimp only); (try k_fold); (try k_sweep))))
local macro_rules | `(tactic| walk_at "call ref") => `(tactic| (k_here; k_dflt (refine' con_use (c_fromd _ _ _ _ _ _ _ _ _ ?kp ?kq ?kr ?ks ?kt ?kv ?kw) ?k1 ?k2 ?k3 ?k4 ?k5 ?kK ?kn ?kd ?ku ?_; (case k1 => k_asm); (case k2 => k_asm); (case k3 => k_asm); (case k4 => k_asm); (case k5 => k_asm); (case kK => first | assumption | exact rfl); (case kd => ktr_room); (case ku => ktr_units); (case kn => first | trivial | k_mem | walk_at "mine mem"); (case kp => assumption); (case kq => assumption); (case kr => assumption); (case ks => first | assumption | omega); (case kt => assumption); (case kv => assumption); (case kw => assumption); intro v9 tl9 h9 tk9 r9 F9 N9; obtain ⟨e9, t9, f9⟩ := r9; subst e9 f9; (try dsimp only [List.nil_append, List.cons_append] at N9); (try dsimp only); (try k_fold); (try k_sweep))))
local macro_rules | `(tactic| walk_at "call ref") => `(tactic| (k_here; k_dflt (refine' conG_use (c_wr _ _ _ _ _ _ _ _ _ _ _ _ _ _ _ ?kp ?kq ?kr ?ks ?kt ?kv ?kw ?kx ?ky ?kz) ?k1 ?k2 ?k3 ?k4 ?k5 ?kK ?kn ?kd ?ku ?_; (case k1 => k_asm); (case k2 => k_asm); (case k3 => k_asm); (case k4 => k_asm); (case k5 => k_asm); (case kK => first | assumption | exact rfl); (case kd => ktr_room); (case ku => ktr_units); (case kn => first | trivial | k_mem | walk_at "mine mem"); (case kp => assumption); (case kq => assumption); (case kr => assumption); (case ks => first | assumption | omega); (case kt => assumption); (case kv => assumption); (case kw => assumption); (case kx => assumption); (case ky => assumption); (case kz => assumption); intro v9 tl9 h9 tk9 r9 F9 N9; obtain ⟨e9, t9, f9⟩ := r9; subst e9 f9; (try dsimp only [List.nil_append, List.cons_append] at N9); (try dsimp only); (try k_fold); (try k_sweep))))
local macro_rules | `(tactic| walk_at "call ref") => `(tactic| (k_here; k_dflt (refine' conL_use (c_read _ ?kp ?kq) ?k1 ?k2 ?k3 ?k4 ?k5 ?kK ?kn ?kd ?ku ?_; (case k1 => k_asm); (case k2 => k_asm); (case k3 => k_asm); (case k4 => k_asm); (case k5 => k_asm); (case kK => first | assumption | exact rfl); (case kd => ktr_room); (case ku => ktr_units); (case kn => first | trivial | k_mem | walk_at "mine mem"); (case kp => exact vr3 (by assumption)); (case kq => first | assumption | omega); intro v9 tl9 h9 tk9 r9 F9 N9; skip; (try dsimp only [List.nil_append, List.cons_append] at N9); (try dsimp only); (try k_fold); (try k_sweep))))
set_option maxRecDepth 100000 in
set_option maxHeartbeats 8000000 in
theorem s_r3d (w : World) (mean : ExcName → Option Value) (mg mb : Str → Option Value) (a : Addr) (ccd : Value) (h₀ : Heap) (L : Addr) (u : Str → Option Value) (news : List (Addr × Obj)) (s : Shared) (Q : Flow → Shared → Prop) (E : Value → Shared → Prop)
    (B : Below callerA h₀ [] h₀) (X : (hd.heap_39 w.params).In h₀) (T : Top hd.view_39 (looseW hd.view_39 [Str.ofString "_law_edges"]) mean mg mb h₀)
    (mode : Int) (bv : Value) (t1 t2 t3 : Tok) (hm : mode = 0 ∨ mode = 1) (D : Value) (ds : List PyData) (led : List (Addr × Obj)) (hsub : ∀ p ∈ news, p ∈ led) (p : Addr) (y mo d h i sc : Int) (u1 u2 u3 u4 u5 u6 : Tok) (hm6 : (p, ({ cls := .type "tuple", data := .seq #[.int y u1, .int mo u2, .int d u3, .int h u4, .int i u5, .int sc u6] } : Obj)) ∈ led) (hy : 1900 ≤ y ∧ y ≤ 9999) (hmo : 1 ≤ mo ∧ mo ≤ 12) (hd1 : 1 ≤ d) (hd2 : d ≤ pLong y mo)
    (hc : 0 < pCount y mo d - pBase mode ∧ pCount y mo d - pBase mode < 3000000) (ha : pCount y mo d - pBase mode < 61 → mode = 1) (h1 : 0 ≤ h ∧ h < 24) (i1 : 0 ≤ i ∧ i < 60) (s1 : 0 ≤ sc ∧ sc < 60)
    (hpr : pRead (pCount y mo d - pBase mode) (3600 * h + 60 * i + sc) mode = .date y mo d h i sc) (hfr : ∀ t, VR (.float (Float64.add (Float64.ofInt (pCount y mo d - pBase mode)) (tClock h i sc)) t) (pCount y mo d - pBase mode) (3600 * h + 60 * i + sc))
    (hne : (Float64.cmpInt (Float64.ofInt (pCount y mo d - pBase mode)) (pDays y mo d - pBase mode) != some Ordering.eq) = false) (hdue : DueOk h₀ led D ds (.date y mo d h i sc)) (hv : ReadsVia h₀ led (.ref p) (telD (.date y mo d h i sc)))
    (F : Fr h₀ L s.heap (kstB u [(Str.ofString "mode", .int mode t1), (Str.ofString "base", .int (pBase mode) t2), (Str.ofString "top", .int (pTop mode) t3), (Str.ofString "before", bv), (Str.ofString "due", D), (Str.ofString "told", .ref p)])) (N : News h₀ L s.heap led)
    (hcont : ∀ h tk m, Fr h₀ L h m → News h₀ L h news → Has m [(Str.ofString "mode", .int mode t1), (Str.ofString "base", .int (pBase mode) t2), (Str.ofString "top", .int (pTop mode) t3), (Str.ofString "before", bv)] → Q .cont { s with heap := h, toks := tk }) :
    wpAny (model PySem.Challenge.rw_fe0353_01.row.prog w) (callerA.deeper (lawE L a ccd)) (execs (readBody.drop 7) (lawE L a ccd)) Q E s := by
  unfold lawE
  conv in (occs := *) lawS => all_goals whnf
  dsimp only
  revert X; k_fill; intro X
  have hx : telOk (.date y mo d h i sc) := True.intro
  conv in (readBody) => whnf
  simp only [List.drop_succ_cons, List.drop_zero]
  k_steps
  all_goals exact hcont _ _ _ (by k_asm) (by refine news_drop' ?_ (by assumption); intro p9 hp9; have hp9 := hsub p9 hp9; simp only [List.mem_append, List.mem_cons, hp9, true_or, or_true]) (by walk_at "mine has")
end
/-- the walk begins as in a file of its own -/
theorem freshS5 : True := by w_top off; exact True.intro
section
local macro_rules | `(tactic| walk_at "call ref") => `(tactic| (k_here; k_dflt (refine' con_use (c_long _ _ _ _ ?kp) ?k1 ?k2 ?k3 ?k4 ?k5 ?kK ?kn ?kd ?ku ?_; (case k1 => k_asm); (case k2 => k_asm); (case k3 => k_asm); (case k4 => k_asm); (case k5 => k_asm); (case kK => first | assumption | exact rfl); (case kd => ktr_room); (case ku => ktr_units); (case kn => first | trivial | k_mem | walk_at "mine mem"); (case kp => first | assumption | exact mon_ok _ | omega); intro v9 tl9 h9 tk9 r9 F9 N9; obtain ⟨e9, t9, f9⟩ := r9; subst e9 f9; (try dsimp only [List.nil_append, List.cons_append] at N9); (try dsimp only); (try k_fold); (try k_sweep))))
set_option maxRecDepth 100000 in
set_option maxHeartbeats 8000000 in
theorem s_w0 (w : World) (mean : ExcName → Option Value) (mg mb : Str → Option Value) (a : Addr) (ccd : Value) (h₀ : Heap) (L : Addr) (u : Str → Option Value) (news : List (Addr × Obj)) (s : Shared) (Q : Flow → Shared → Prop) (E : Value → Shared → Prop)
    (B : Below callerA h₀ [] h₀) (X : (hd.heap_39 w.params).In h₀) (T : Top hd.view_39 (looseW hd.view_39 [Str.ofString "_law_edges"]) mean mg mb h₀)
    (mode : Int) (bv : Value) (t1 t2 t3 : Tok) (hm : mode = 0 ∨ mode = 1) (kind rest : Int) (t4 t5 : Tok) (hr : 0 ≤ rest ∧ rest < 1000000000000000)
    (F : Fr h₀ L s.heap (kstB u [(Str.ofString "mode", .int mode t1), (Str.ofString "base", .int (pBase mode) t2), (Str.ofString "top", .int (pTop mode) t3), (Str.ofString "before", bv), (Str.ofString "kind", .int kind t4), (Str.ofString "rest", .int rest t5)])) (N : News h₀ L s.heap news)
    (next : ∀ y mo d h i sc u1 u2 u3 u4 u5 u6 u hh tk, SixIn y mo d h i sc → Fr h₀ L hh (kstB u [(Str.ofString "mode", .int mode t1), (Str.ofString "base", .int (pBase mode) t2), (Str.ofString "top", .int (pTop mode) t3), (Str.ofString "before", bv), (Str.ofString "year", .int y u1), (Str.ofString "month", .int mo u2), (Str.ofString "day", .int d u3), (Str.ofString "hour", .int h u4), (Str.ofString "minute", .int i u5), (Str.ofString "second", .int sc u6)]) → News h₀ L hh news → wpAny (model PySem.Challenge.rw_fe0353_01.row.prog w) (callerA.deeper (lawE L a ccd)) (execs (writeBody.drop 6) (lawE L a ccd)) Q E { s with heap := hh, toks := tk }) :
    wpAny (model PySem.Challenge.rw_fe0353_01.row.prog w) (callerA.deeper (lawE L a ccd)) (execs writeBody (lawE L a ccd)) Q E s := by
  unfold lawE
  conv in (occs := *) lawS => all_goals whnf
  dsimp only
  revert X; k_fill; intro X
  refine my_seg (σ := Int × Int × Int × Int × Int × Int × Tok × Tok × Tok × Tok × Tok × Tok) (h₀ := h₀) (L := L) 6 (fun c => [(Str.ofString "mode", .int mode t1), (Str.ofString "base", .int (pBase mode) t2), (Str.ofString "top", .int (pTop mode) t3), (Str.ofString "before", bv), (Str.ofString "year", .int c.1 c.2.2.2.2.2.2.1), (Str.ofString "month", .int c.2.1 c.2.2.2.2.2.2.2.1), (Str.ofString "day", .int c.2.2.1 c.2.2.2.2.2.2.2.2.1), (Str.ofString "hour", .int c.2.2.2.1 c.2.2.2.2.2.2.2.2.2.1), (Str.ofString "minute", .int c.2.2.2.2.1 c.2.2.2.2.2.2.2.2.2.2.1), (Str.ofString "second", .int c.2.2.2.2.2.1 c.2.2.2.2.2.2.2.2.2.2.2)]) (fun _ => news) (fun c => SixIn c.1 c.2.1 c.2.2.1 c.2.2.2.1 c.2.2.2.2.1 c.2.2.2.2.2.1) ?_ ?_
  rotate_left
  · rintro ⟨c1, c2, c3, c4, c5, c6, c7, c8, c9, c10, c11, c12⟩ u9 h9 tk9 hP F9 N9
    exact next _ _ _ _ _ _ _ _ _ _ _ _ u9 h9 tk9 hP F9 N9
  conv in (writeBody) => whnf
  simp only [List.take_succ_cons, List.take_zero]
  k_steps
  all_goals (refine cut_end (_, _, _, _, _, _, _, _, _, _, _, _) (by k_asm) (by refine news_drop' ?_ (by assumption); walk_at "mine sub2") (by (try dsimp only); walk_at "mine has") ?_ rfl rfl rfl; dsimp only)
  · exact six_zero (clk_ok _)
  · exact six_bad ⟨(gy1 _).1, by have := (gy1 ((rest.fdiv 8).fmod 3).toNat).2; omega, .inl (gy1 _).2⟩ (mon_ok _) (day_ok _) (clk_ok _)
  · exact six_bad (gy2 _) (mon_ok _) (day_ok _) (clk_ok _)
  · exact six_any (year_ok _) (gsm _ (by decide) (by decide) (by decide)) (sm_le (day_ok _) (by decide) (by decide)) (sm_of (clk_ok _).1 (by decide) (by decide)) (sm_of (clk_ok _).2.1 (by decide) (by decide)) (sm_of (clk_ok _).2.2 (by decide) (by decide))
  · exact six_any (year_ok _) (sm_le (mon_ok _) (by decide) (by decide)) (gsm _ (by decide) (by decide) (sm_long _ _ _ rfl)) (sm_of (clk_ok _).1 (by decide) (by decide)) (sm_of (clk_ok _).2.1 (by decide) (by decide)) (sm_of (clk_ok _).2.2 (by decide) (by decide))
  · exact six_any (year_ok _) (sm_le (mon_ok _) (by decide) (by decide)) (sm_le (day_ok _) (by decide) (by decide)) (gsm _ (by decide) (by decide) (by decide)) (sm_of (clk_ok _).2.1 (by decide) (by decide)) (sm_of (clk_ok _).2.2 (by decide) (by decide))
  · exact six_any (year_ok _) (sm_le (mon_ok _) (by decide) (by decide)) (sm_le (day_ok _) (by decide) (by decide)) (sm_of (clk_ok _).1 (by decide) (by decide)) (gsm _ (by decide) (by decide) (by decide)) (sm_of (clk_ok _).2.2 (by decide) (by decide))
  · exact six_any (year_ok _) (sm_le (mon_ok _) (by decide) (by decide)) (sm_le (day_ok _) (by decide) (by decide)) (sm_of (clk_ok _).1 (by decide) (by decide)) (sm_of (clk_ok _).2.1 (by decide) (by decide)) (gsm _ (by decide) (by decide) (by decide))
  · exact six_any (year_ok _) (sm_le (mon_ok _) (by decide) (by decide)) (sm_le (day_ok _) (by decide) (by decide)) (sm_of (clk_ok _).1 (by decide) (by decide)) (sm_of (clk_ok _).2.1 (by decide) (by decide)) (sm_of (clk_ok _).2.2 (by decide) (by decide))
end
/-- the walk begins as in a file of its own -/
theorem freshS6 : True := by w_top off; exact True.intro
section
local macro_rules | `(tactic| walk_at "call ref") => `(tactic| (k_here; k_dflt (refine' con_use (c_days _ _ _ _ _ _) ?k1 ?k2 ?k3 ?k4 ?k5 ?kK ?kn ?kd ?ku ?_; (case k1 => k_asm); (case k2 => k_asm); (case k3 => k_asm); (case k4 => k_asm); (case k5 => k_asm); (case kK => first | assumption | exact rfl); (case kd => ktr_room); (case ku => ktr_units); (case kn => first | trivial | k_mem | walk_at "mine mem");  intro v9 tl9 h9 tk9 r9 F9 N9; obtain ⟨e9, t9, f9⟩ := r9; subst e9 f9; (try dsimp only [List.nil_append, List.cons_append] at N9); (try dsimp only); (try k_fold); (try k_sweep))))
set_option maxRecDepth 100000 in
set_option maxHeartbeats 8000000 in
theorem s_w1v (w : World) (mean : ExcName → Option Value) (mg mb : Str → Option Value) (a : Addr) (ccd : Value) (h₀ : Heap) (L : Addr) (u : Str → Option Value) (news : List (Addr × Obj)) (s : Shared) (Q : Flow → Shared → Prop) (E : Value → Shared → Prop)
    (B : Below callerA h₀ [] h₀) (X : (hd.heap_39 w.params).In h₀) (T : Top hd.view_39 (looseW hd.view_39 [Str.ofString "_law_edges"]) mean mg mb h₀)
    (mode : Int) (bv : Value) (t1 t2 t3 : Tok) (hm : mode = 0 ∨ mode = 1) (y mo d h i sc : Int) (t4 t5 t6 t7 t8 t9 : Tok) (hnz : y ≠ 0 ∨ 1 ≤ mo) (hc : 0 < pDays y mo d - pBase mode) (ha : pDays y mo d - pBase mode < 61 → mode = 1) (h1 : 0 ≤ h ∧ h < 24) (i1 : 0 ≤ i ∧ i < 60) (s1 : 0 ≤ sc ∧ sc < 60)
    (F : Fr h₀ L s.heap (kstB u [(Str.ofString "mode", .int mode t1), (Str.ofString "base", .int (pBase mode) t2), (Str.ofString "top", .int (pTop mode) t3), (Str.ofString "before", bv), (Str.ofString "year", .int y t4), (Str.ofString "month", .int mo t5), (Str.ofString "day", .int d t6), (Str.ofString "hour", .int h t7), (Str.ofString "minute", .int i t8), (Str.ofString "second", .int sc t9)])) (N : News h₀ L s.heap news)
    (next : ∀ dp cp v1 v2 v3 v4 v5 v6 tc tw led u hh tk, (dp, ({ cls := .type "tuple", data := .seq #[.int y v1, .int mo v2, .int d v3] } : Obj)) ∈ led → (cp, ({ cls := .type "tuple", data := .seq #[.int h v4, .int i v5, .int sc v6] } : Obj)) ∈ led → (∀ p ∈ news, p ∈ led) → Fr h₀ L hh (kstB u [(Str.ofString "mode", .int mode t1), (Str.ofString "base", .int (pBase mode) t2), (Str.ofString "top", .int (pTop mode) t3), (Str.ofString "before", bv), (Str.ofString "date", .ref dp), (Str.ofString "clock", .ref cp), (Str.ofString "count", .int (pDays y mo d - pBase mode) tc), (Str.ofString "wrong", .str (Str.ofString "") tw)]) → News h₀ L hh led → wpAny (model PySem.Challenge.rw_fe0353_01.row.prog w) (callerA.deeper (lawE L a ccd)) (execs (writeBody.drop 11) (lawE L a ccd)) Q E { s with heap := hh, toks := tk }) :
    wpAny (model PySem.Challenge.rw_fe0353_01.row.prog w) (callerA.deeper (lawE L a ccd)) (execs (writeBody.drop 6) (lawE L a ccd)) Q E s := by
  unfold lawE
  conv in (occs := *) lawS => all_goals whnf
  dsimp only
  revert X; k_fill; intro X
  refine my_seg (σ := Addr × Addr × Tok × Tok × List (Addr × Obj)) (h₀ := h₀) (L := L) 5 (fun c => [(Str.ofString "mode", .int mode t1), (Str.ofString "base", .int (pBase mode) t2), (Str.ofString "top", .int (pTop mode) t3), (Str.ofString "before", bv), (Str.ofString "date", .ref c.1), (Str.ofString "clock", .ref c.2.1), (Str.ofString "count", .int (pDays y mo d - pBase mode) c.2.2.1), (Str.ofString "wrong", .str (Str.ofString "") c.2.2.2.1)]) (fun c => c.2.2.2.2) (fun c => (∃ v1 v2 v3 v4 v5 v6, (c.1, ({ cls := .type "tuple", data := .seq #[.int y v1, .int mo v2, .int d v3] } : Obj)) ∈ c.2.2.2.2 ∧ (c.2.1, ({ cls := .type "tuple", data := .seq #[.int h v4, .int i v5, .int sc v6] } : Obj)) ∈ c.2.2.2.2) ∧ ∀ p ∈ news, p ∈ c.2.2.2.2) ?_ ?_
  rotate_left
  · rintro ⟨c1, c2, c3, c4, c5⟩ u9 h9 tk9 ⟨⟨v1, v2, v3, v4, v5, v6, hP1, hP2⟩, hP3⟩ F9 N9
    exact next _ _ _ _ _ _ _ _ _ _ _ u9 h9 tk9 hP1 hP2 hP3 F9 N9
  conv in (writeBody) => whnf
  simp only [List.take_succ_cons, List.take_zero, List.drop_succ_cons, List.drop_zero]
  k_steps
  all_goals (refine cut_end (_, _, _, _, _) (by k_asm) (by assumption) (by (try dsimp only); walk_at "mine has") ?_ rfl rfl rfl; dsimp only)
  all_goals exact ⟨⟨_, _, _, _, _, _, by walk_at "mine mem", by walk_at "mine mem"⟩, by walk_at "mine sub2"⟩
set_option maxRecDepth 100000 in
set_option maxHeartbeats 8000000 in
theorem s_w1z (w : World) (mean : ExcName → Option Value) (mg mb : Str → Option Value) (a : Addr) (ccd : Value) (h₀ : Heap) (L : Addr) (u : Str → Option Value) (news : List (Addr × Obj)) (s : Shared) (Q : Flow → Shared → Prop) (E : Value → Shared → Prop)
    (B : Below callerA h₀ [] h₀) (X : (hd.heap_39 w.params).In h₀) (T : Top hd.view_39 (looseW hd.view_39 [Str.ofString "_law_edges"]) mean mg mb h₀)
    (mode : Int) (bv : Value) (t1 t2 t3 : Tok) (hm : mode = 0 ∨ mode = 1) (y mo d h i sc : Int) (t4 t5 t6 t7 t8 t9 : Tok) (h1 : 0 ≤ h ∧ h < 24) (i1 : 0 ≤ i ∧ i < 60) (s1 : 0 ≤ sc ∧ sc < 60)
    (F : Fr h₀ L s.heap (kstB u [(Str.ofString "mode", .int mode t1), (Str.ofString "base", .int (pBase mode) t2), (Str.ofString "top", .int (pTop mode) t3), (Str.ofString "before", bv), (Str.ofString "year", .int 0 t4), (Str.ofString "month", .int 0 t5), (Str.ofString "day", .int 0 t6), (Str.ofString "hour", .int h t7), (Str.ofString "minute", .int i t8), (Str.ofString "second", .int sc t9)])) (N : News h₀ L s.heap news)
    (next : ∀ dp cp v1 v2 v3 v4 v5 v6 tc tw led u hh tk, (dp, ({ cls := .type "tuple", data := .seq #[.int 0 v1, .int 0 v2, .int 0 v3] } : Obj)) ∈ led → (cp, ({ cls := .type "tuple", data := .seq #[.int h v4, .int i v5, .int sc v6] } : Obj)) ∈ led → (∀ p ∈ news, p ∈ led) → Fr h₀ L hh (kstB u [(Str.ofString "mode", .int mode t1), (Str.ofString "base", .int (pBase mode) t2), (Str.ofString "top", .int (pTop mode) t3), (Str.ofString "before", bv), (Str.ofString "date", .ref dp), (Str.ofString "clock", .ref cp), (Str.ofString "count", .int (0) tc), (Str.ofString "wrong", .str (Str.ofString "") tw)]) → News h₀ L hh led → wpAny (model PySem.Challenge.rw_fe0353_01.row.prog w) (callerA.deeper (lawE L a ccd)) (execs (writeBody.drop 11) (lawE L a ccd)) Q E { s with heap := hh, toks := tk }) :
    wpAny (model PySem.Challenge.rw_fe0353_01.row.prog w) (callerA.deeper (lawE L a ccd)) (execs (writeBody.drop 6) (lawE L a ccd)) Q E s := by
  unfold lawE
  conv in (occs := *) lawS => all_goals whnf
  dsimp only
  revert X; k_fill; intro X
  refine my_seg (σ := Addr × Addr × Tok × Tok × List (Addr × Obj)) (h₀ := h₀) (L := L) 5 (fun c => [(Str.ofString "mode", .int mode t1), (Str.ofString "base", .int (pBase mode) t2), (Str.ofString "top", .int (pTop mode) t3), (Str.ofString "before", bv), (Str.ofString "date", .ref c.1), (Str.ofString "clock", .ref c.2.1), (Str.ofString "count", .int (0) c.2.2.1), (Str.ofString "wrong", .str (Str.ofString "") c.2.2.2.1)]) (fun c => c.2.2.2.2) (fun c => (∃ v1 v2 v3 v4 v5 v6, (c.1, ({ cls := .type "tuple", data := .seq #[.int 0 v1, .int 0 v2, .int 0 v3] } : Obj)) ∈ c.2.2.2.2 ∧ (c.2.1, ({ cls := .type "tuple", data := .seq #[.int h v4, .int i v5, .int sc v6] } : Obj)) ∈ c.2.2.2.2) ∧ ∀ p ∈ news, p ∈ c.2.2.2.2) ?_ ?_
  rotate_left
  · rintro ⟨c1, c2, c3, c4, c5⟩ u9 h9 tk9 ⟨⟨v1, v2, v3, v4, v5, v6, hP1, hP2⟩, hP3⟩ F9 N9
    exact next _ _ _ _ _ _ _ _ _ _ _ u9 h9 tk9 hP1 hP2 hP3 F9 N9
  conv in (writeBody) => whnf
  simp only [List.take_succ_cons, List.take_zero, List.drop_succ_cons, List.drop_zero]
  k_steps
  all_goals (refine cut_end (_, _, _, _, _) (by k_asm) (by assumption) (by (try dsimp only); walk_at "mine has") ?_ rfl rfl rfl; dsimp only)
  all_goals exact ⟨⟨_, _, _, _, _, _, by walk_at "mine mem", by walk_at "mine mem"⟩, by walk_at "mine sub2"⟩
end
/-- the walk begins as in a file of its own -/
theorem freshS7 : True := by w_top off; exact True.intro
section
local macro_rules | `(tactic| walk_at "call ref") => `(tactic| (k_here; k_dflt (refine' con_use (c_days _ _ _ _ _ _) ?k1 ?k2 ?k3 ?k4 ?k5 ?kK ?kn ?kd ?ku ?_; (case k1 => k_asm); (case k2 => k_asm); (case k3 => k_asm); (case k4 => k_asm); (case k5 => k_asm); (case kK => first | assumption | exact rfl); (case kd => ktr_room); (case ku => ktr_units); (case kn => first | trivial | k_mem | walk_at "mine mem");  intro v9 tl9 h9 tk9 r9 F9 N9; obtain ⟨e9, t9, f9⟩ := r9; subst e9 f9; (try dsimp only [List.nil_append, List.cons_append] at N9); (try dsimp only); (try k_fold); (try k_sweep))))
set_option maxRecDepth 100000 in
set_option maxHeartbeats 8000000 in
theorem s_w1e1 (w : World) (mean : ExcName → Option Value) (mg mb : Str → Option Value) (a : Addr) (ccd : Value) (h₀ : Heap) (L : Addr) (u : Str → Option Value) (news : List (Addr × Obj)) (s : Shared) (Q : Flow → Shared → Prop) (E : Value → Shared → Prop)
    (B : Below callerA h₀ [] h₀) (X : (hd.heap_39 w.params).In h₀) (T : Top hd.view_39 (looseW hd.view_39 [Str.ofString "_law_edges"]) mean mg mb h₀)
    (mode : Int) (bv : Value) (t1 t2 t3 : Tok) (hm : mode = 0 ∨ mode = 1) (y mo d h i sc : Int) (t4 t5 t6 t7 t8 t9 : Tok) (hnz : y ≠ 0 ∨ 1 ≤ mo) (hc : pDays y mo d - pBase mode ≤ 0) 
    (F : Fr h₀ L s.heap (kstB u [(Str.ofString "mode", .int mode t1), (Str.ofString "base", .int (pBase mode) t2), (Str.ofString "top", .int (pTop mode) t3), (Str.ofString "before", bv), (Str.ofString "year", .int y t4), (Str.ofString "month", .int mo t5), (Str.ofString "day", .int d t6), (Str.ofString "hour", .int h t7), (Str.ofString "minute", .int i t8), (Str.ofString "second", .int sc t9)])) (N : News h₀ L s.heap news)
    (next : ∀ dp cp v1 v2 v3 v4 v5 v6 tc tw led u hh tk, (dp, ({ cls := .type "tuple", data := .seq #[.int y v1, .int mo v2, .int d v3] } : Obj)) ∈ led → (cp, ({ cls := .type "tuple", data := .seq #[.int h v4, .int i v5, .int sc v6] } : Obj)) ∈ led → (∀ p ∈ news, p ∈ led) → Fr h₀ L hh (kstB u [(Str.ofString "mode", .int mode t1), (Str.ofString "base", .int (pBase mode) t2), (Str.ofString "top", .int (pTop mode) t3), (Str.ofString "before", bv), (Str.ofString "date", .ref dp), (Str.ofString "clock", .ref cp), (Str.ofString "count", .int (pDays y mo d - pBase mode) tc), (Str.ofString "wrong", .str (Str.ofString "tuple") tw)]) → News h₀ L hh led → wpAny (model PySem.Challenge.rw_fe0353_01.row.prog w) (callerA.deeper (lawE L a ccd)) (execs (writeBody.drop 11) (lawE L a ccd)) Q E { s with heap := hh, toks := tk }) :
    wpAny (model PySem.Challenge.rw_fe0353_01.row.prog w) (callerA.deeper (lawE L a ccd)) (execs (writeBody.drop 6) (lawE L a ccd)) Q E s := by
  unfold lawE
  conv in (occs := *) lawS => all_goals whnf
  dsimp only
  revert X; k_fill; intro X
  refine my_seg (σ := Addr × Addr × Tok × Tok × List (Addr × Obj)) (h₀ := h₀) (L := L) 5 (fun c => [(Str.ofString "mode", .int mode t1), (Str.ofString "base", .int (pBase mode) t2), (Str.ofString "top", .int (pTop mode) t3), (Str.ofString "before", bv), (Str.ofString "date", .ref c.1), (Str.ofString "clock", .ref c.2.1), (Str.ofString "count", .int (pDays y mo d - pBase mode) c.2.2.1), (Str.ofString "wrong", .str (Str.ofString "tuple") c.2.2.2.1)]) (fun c => c.2.2.2.2) (fun c => (∃ v1 v2 v3 v4 v5 v6, (c.1, ({ cls := .type "tuple", data := .seq #[.int y v1, .int mo v2, .int d v3] } : Obj)) ∈ c.2.2.2.2 ∧ (c.2.1, ({ cls := .type "tuple", data := .seq #[.int h v4, .int i v5, .int sc v6] } : Obj)) ∈ c.2.2.2.2) ∧ ∀ p ∈ news, p ∈ c.2.2.2.2) ?_ ?_
  rotate_left
  · rintro ⟨c1, c2, c3, c4, c5⟩ u9 h9 tk9 ⟨⟨v1, v2, v3, v4, v5, v6, hP1, hP2⟩, hP3⟩ F9 N9
    exact next _ _ _ _ _ _ _ _ _ _ _ u9 h9 tk9 hP1 hP2 hP3 F9 N9
  conv in (writeBody) => whnf
  simp only [List.take_succ_cons, List.take_zero, List.drop_succ_cons, List.drop_zero]
  k_steps
  all_goals (refine cut_end (_, _, _, _, _) (by k_asm) (by assumption) (by (try dsimp only); walk_at "mine has") ?_ rfl rfl rfl; dsimp only)
  all_goals exact ⟨⟨_, _, _, _, _, _, by walk_at "mine mem", by walk_at "mine mem"⟩, by walk_at "mine sub2"⟩
set_option maxRecDepth 100000 in
set_option maxHeartbeats 8000000 in
theorem s_w1e2 (w : World) (mean : ExcName → Option Value) (mg mb : Str → Option Value) (a : Addr) (ccd : Value) (h₀ : Heap) (L : Addr) (u : Str → Option Value) (news : List (Addr × Obj)) (s : Shared) (Q : Flow → Shared → Prop) (E : Value → Shared → Prop)
    (B : Below callerA h₀ [] h₀) (X : (hd.heap_39 w.params).In h₀) (T : Top hd.view_39 (looseW hd.view_39 [Str.ofString "_law_edges"]) mean mg mb h₀)
    (mode : Int) (bv : Value) (t1 t2 t3 : Tok) (hm : mode = 0 ∨ mode = 1) (y mo d h i sc : Int) (t4 t5 t6 t7 t8 t9 : Tok) (hnz : y ≠ 0 ∨ 1 ≤ mo) (hc : 0 < pDays y mo d - pBase mode) (ha : pDays y mo d - pBase mode < 61) (hm0 : mode = 0) 
    (F : Fr h₀ L s.heap (kstB u [(Str.ofString "mode", .int mode t1), (Str.ofString "base", .int (pBase mode) t2), (Str.ofString "top", .int (pTop mode) t3), (Str.ofString "before", bv), (Str.ofString "year", .int y t4), (Str.ofString "month", .int mo t5), (Str.ofString "day", .int d t6), (Str.ofString "hour", .int h t7), (Str.ofString "minute", .int i t8), (Str.ofString "second", .int sc t9)])) (N : News h₀ L s.heap news)
    (next : ∀ dp cp v1 v2 v3 v4 v5 v6 tc tw led u hh tk, (dp, ({ cls := .type "tuple", data := .seq #[.int y v1, .int mo v2, .int d v3] } : Obj)) ∈ led → (cp, ({ cls := .type "tuple", data := .seq #[.int h v4, .int i v5, .int sc v6] } : Obj)) ∈ led → (∀ p ∈ news, p ∈ led) → Fr h₀ L hh (kstB u [(Str.ofString "mode", .int mode t1), (Str.ofString "base", .int (pBase mode) t2), (Str.ofString "top", .int (pTop mode) t3), (Str.ofString "before", bv), (Str.ofString "date", .ref dp), (Str.ofString "clock", .ref cp), (Str.ofString "count", .int (pDays y mo d - pBase mode) tc), (Str.ofString "wrong", .str (Str.ofString "ambiguous") tw)]) → News h₀ L hh led → wpAny (model PySem.Challenge.rw_fe0353_01.row.prog w) (callerA.deeper (lawE L a ccd)) (execs (writeBody.drop 11) (lawE L a ccd)) Q E { s with heap := hh, toks := tk }) :
    wpAny (model PySem.Challenge.rw_fe0353_01.row.prog w) (callerA.deeper (lawE L a ccd)) (execs (writeBody.drop 6) (lawE L a ccd)) Q E s := by
  unfold lawE
  conv in (occs := *) lawS => all_goals whnf
  dsimp only
  revert X; k_fill; intro X
  refine my_seg (σ := Addr × Addr × Tok × Tok × List (Addr × Obj)) (h₀ := h₀) (L := L) 5 (fun c => [(Str.ofString "mode", .int mode t1), (Str.ofString "base", .int (pBase mode) t2), (Str.ofString "top", .int (pTop mode) t3), (Str.ofString "before", bv), (Str.ofString "date", .ref c.1), (Str.ofString "clock", .ref c.2.1), (Str.ofString "count", .int (pDays y mo d - pBase mode) c.2.2.1), (Str.ofString "wrong", .str (Str.ofString "ambiguous") c.2.2.2.1)]) (fun c => c.2.2.2.2) (fun c => (∃ v1 v2 v3 v4 v5 v6, (c.1, ({ cls := .type "tuple", data := .seq #[.int y v1, .int mo v2, .int d v3] } : Obj)) ∈ c.2.2.2.2 ∧ (c.2.1, ({ cls := .type "tuple", data := .seq #[.int h v4, .int i v5, .int sc v6] } : Obj)) ∈ c.2.2.2.2) ∧ ∀ p ∈ news, p ∈ c.2.2.2.2) ?_ ?_
  rotate_left
  · rintro ⟨c1, c2, c3, c4, c5⟩ u9 h9 tk9 ⟨⟨v1, v2, v3, v4, v5, v6, hP1, hP2⟩, hP3⟩ F9 N9
    exact next _ _ _ _ _ _ _ _ _ _ _ u9 h9 tk9 hP1 hP2 hP3 F9 N9
  conv in (writeBody) => whnf
  simp only [List.take_succ_cons, List.take_zero, List.drop_succ_cons, List.drop_zero]
  k_steps
  all_goals (refine cut_end (_, _, _, _, _) (by k_asm) (by assumption) (by (try dsimp only); walk_at "mine has") ?_ rfl rfl rfl; dsimp only)
  all_goals exact ⟨⟨_, _, _, _, _, _, by walk_at "mine mem", by walk_at "mine mem"⟩, by walk_at "mine sub2"⟩
set_option maxRecDepth 100000 in
set_option maxHeartbeats 8000000 in
theorem s_w1e3 (w : World) (mean : ExcName → Option Value) (mg mb : Str → Option Value) (a : Addr) (ccd : Value) (h₀ : Heap) (L : Addr) (u : Str → Option Value) (news : List (Addr × Obj)) (s : Shared) (Q : Flow → Shared → Prop) (E : Value → Shared → Prop)
    (B : Below callerA h₀ [] h₀) (X : (hd.heap_39 w.params).In h₀) (T : Top hd.view_39 (looseW hd.view_39 [Str.ofString "_law_edges"]) mean mg mb h₀)
    (mode : Int) (bv : Value) (t1 t2 t3 : Tok) (hm : mode = 0 ∨ mode = 1) (y mo d h i sc : Int) (t4 t5 t6 t7 t8 t9 : Tok) (hnz : y ≠ 0 ∨ 1 ≤ mo) (hc : 0 < pDays y mo d - pBase mode) (ha : pDays y mo d - pBase mode < 61 → mode = 1) (hcl : ¬ (0 ≤ h ∧ h < 24 ∧ 0 ≤ i ∧ i < 60 ∧ 0 ≤ sc ∧ sc < 60))
    (F : Fr h₀ L s.heap (kstB u [(Str.ofString "mode", .int mode t1), (Str.ofString "base", .int (pBase mode) t2), (Str.ofString "top", .int (pTop mode) t3), (Str.ofString "before", bv), (Str.ofString "year", .int y t4), (Str.ofString "month", .int mo t5), (Str.ofString "day", .int d t6), (Str.ofString "hour", .int h t7), (Str.ofString "minute", .int i t8), (Str.ofString "second", .int sc t9)])) (N : News h₀ L s.heap news)
    (next : ∀ dp cp v1 v2 v3 v4 v5 v6 tc tw led u hh tk, (dp, ({ cls := .type "tuple", data := .seq #[.int y v1, .int mo v2, .int d v3] } : Obj)) ∈ led → (cp, ({ cls := .type "tuple", data := .seq #[.int h v4, .int i v5, .int sc v6] } : Obj)) ∈ led → (∀ p ∈ news, p ∈ led) → Fr h₀ L hh (kstB u [(Str.ofString "mode", .int mode t1), (Str.ofString "base", .int (pBase mode) t2), (Str.ofString "top", .int (pTop mode) t3), (Str.ofString "before", bv), (Str.ofString "date", .ref dp), (Str.ofString "clock", .ref cp), (Str.ofString "count", .int (pDays y mo d - pBase mode) tc), (Str.ofString "wrong", .str (Str.ofString "tuple") tw)]) → News h₀ L hh led → wpAny (model PySem.Challenge.rw_fe0353_01.row.prog w) (callerA.deeper (lawE L a ccd)) (execs (writeBody.drop 11) (lawE L a ccd)) Q E { s with heap := hh, toks := tk }) :
    wpAny (model PySem.Challenge.rw_fe0353_01.row.prog w) (callerA.deeper (lawE L a ccd)) (execs (writeBody.drop 6) (lawE L a ccd)) Q E s := by
  unfold lawE
  conv in (occs := *) lawS => all_goals whnf
  dsimp only
  revert X; k_fill; intro X
  refine my_seg (σ := Addr × Addr × Tok × Tok × List (Addr × Obj)) (h₀ := h₀) (L := L) 5 (fun c => [(Str.ofString "mode", .int mode t1), (Str.ofString "base", .int (pBase mode) t2), (Str.ofString "top", .int (pTop mode) t3), (Str.ofString "before", bv), (Str.ofString "date", .ref c.1), (Str.ofString "clock", .ref c.2.1), (Str.ofString "count", .int (pDays y mo d - pBase mode) c.2.2.1), (Str.ofString "wrong", .str (Str.ofString "tuple") c.2.2.2.1)]) (fun c => c.2.2.2.2) (fun c => (∃ v1 v2 v3 v4 v5 v6, (c.1, ({ cls := .type "tuple", data := .seq #[.int y v1, .int mo v2, .int d v3] } : Obj)) ∈ c.2.2.2.2 ∧ (c.2.1, ({ cls := .type "tuple", data := .seq #[.int h v4, .int i v5, .int sc v6] } : Obj)) ∈ c.2.2.2.2) ∧ ∀ p ∈ news, p ∈ c.2.2.2.2) ?_ ?_
  rotate_left
  · rintro ⟨c1, c2, c3, c4, c5⟩ u9 h9 tk9 ⟨⟨v1, v2, v3, v4, v5, v6, hP1, hP2⟩, hP3⟩ F9 N9
    exact next _ _ _ _ _ _ _ _ _ _ _ u9 h9 tk9 hP1 hP2 hP3 F9 N9
  conv in (writeBody) => whnf
  simp only [List.take_succ_cons, List.take_zero, List.drop_succ_cons, List.drop_zero]
  k_steps
  all_goals (refine cut_end (_, _, _, _, _) (by k_asm) (by assumption) (by (try dsimp only); walk_at "mine has") ?_ rfl rfl rfl; dsimp only)
  all_goals exact ⟨⟨_, _, _, _, _, _, by walk_at "mine mem", by walk_at "mine mem"⟩, by walk_at "mine sub2"⟩
end
/-- the walk begins as in a file of its own -/
theorem freshS8 : True := by w_top off; exact True.intro
section
local macro_rules | `(tactic| walk_at "mine nothing") => `(tactic| skip)
local macro_rules | `(tactic| walk_at "call ref") => `(tactic| (k_here; k_dflt (refine' conG_use (hyp_w ?kp _ _ _ _ _ _ _ _) ?k1 ?k2 ?k3 ?k4 ?k5 ?kK ?kn ?kd ?ku ?_; (case k1 => k_asm); (case k2 => k_asm); (case k3 => k_asm); (case k4 => k_asm); (case k5 => k_asm); (case kK => first | assumption | exact rfl); (case kd => ktr_room); (case ku => ktr_units); (case kn => first | trivial | k_mem | walk_at "mine mem"); (case kp => with_reducible assumption); intro v9 tl9 h9 tk9 r9 F9 N9; obtain ⟨e9, t9, f9⟩ := r9; subst e9 f9; (try dsimp only [List.nil_append, List.cons_append] at N9); (try dsimp only); (try k_fold); (try k_sweep))))
set_option maxRecDepth 100000 in
set_option maxHeartbeats 8000000 in
theorem s_w2t (w : World) (mean : ExcName → Option Value) (mg mb : Str → Option Value) (a : Addr) (ccd : Value) (h₀ : Heap) (L : Addr) (u : Str → Option Value) (news : List (Addr × Obj)) (s : Shared) (Q : Flow → Shared → Prop) (E : Value → Shared → Prop)
    (B : Below callerA h₀ [] h₀) (X : (hd.heap_39 w.params).In h₀) (T : Top hd.view_39 (looseW hd.view_39 [Str.ofString "_law_edges"]) mean mg mb h₀)
    (mode : Int) (bv : Value) (t1 t2 t3 : Tok) (hm : mode = 0 ∨ mode = 1) (y mo d h i sc : Int) (dp cp : Addr) (v1 v2 v3 v4 v5 v6 t4 t5 : Tok) (led : List (Addr × Obj)) (hsub : ∀ p ∈ news, p ∈ led) (hdp : (dp, ({ cls := .type "tuple", data := .seq #[.int y v1, .int mo v2, .int d v3] } : Obj)) ∈ led) (hcp : (cp, ({ cls := .type "tuple", data := .seq #[.int h v4, .int i v5, .int sc v6] } : Obj)) ∈ led) (cn : Int) (hW : ∀ p v1 v2 v3 v4 v5 v6 t, ConG 6 187 (HasT6 p y mo d h i sc v1 v2 v3 v4 v5 v6) [.ref p, .int mode t] (TelV (.text (Str.ofString "tuple"))))
    (F : Fr h₀ L s.heap (kstB u [(Str.ofString "mode", .int mode t1), (Str.ofString "base", .int (pBase mode) t2), (Str.ofString "top", .int (pTop mode) t3), (Str.ofString "before", bv), (Str.ofString "date", .ref dp), (Str.ofString "clock", .ref cp), (Str.ofString "count", .int (cn) t4), (Str.ofString "wrong", .str (Str.ofString "tuple") t5)])) (N : News h₀ L s.heap led)
    (hcont : ∀ h tk m, Fr h₀ L h m → News h₀ L h news → Has m [(Str.ofString "mode", .int mode t1), (Str.ofString "base", .int (pBase mode) t2), (Str.ofString "top", .int (pTop mode) t3), (Str.ofString "before", bv)] → Q .cont { s with heap := h, toks := tk }) :
    wpAny (model PySem.Challenge.rw_fe0353_01.row.prog w) (callerA.deeper (lawE L a ccd)) (execs (writeBody.drop 11) (lawE L a ccd)) Q E s := by
  unfold lawE
  conv in (occs := *) lawS => all_goals whnf
  dsimp only
  revert X; k_fill; intro X
  dsimp only [kstB] at F
  conv in (writeBody) => whnf
  simp only [List.drop_succ_cons, List.drop_zero]
  k_steps
  all_goals exact hcont _ _ _ (by k_asm) (by refine news_drop' ?_ (by assumption); intro p9 hp9; have hp9 := hsub p9 hp9; simp only [List.mem_append, List.mem_cons, hp9, true_or, or_true]) (by walk_at "mine has")
set_option maxRecDepth 100000 in
set_option maxHeartbeats 8000000 in
theorem s_w2a (w : World) (mean : ExcName → Option Value) (mg mb : Str → Option Value) (a : Addr) (ccd : Value) (h₀ : Heap) (L : Addr) (u : Str → Option Value) (news : List (Addr × Obj)) (s : Shared) (Q : Flow → Shared → Prop) (E : Value → Shared → Prop)
    (B : Below callerA h₀ [] h₀) (X : (hd.heap_39 w.params).In h₀) (T : Top hd.view_39 (looseW hd.view_39 [Str.ofString "_law_edges"]) mean mg mb h₀)
    (mode : Int) (bv : Value) (t1 t2 t3 : Tok) (hm : mode = 0 ∨ mode = 1) (y mo d h i sc : Int) (dp cp : Addr) (v1 v2 v3 v4 v5 v6 t4 t5 : Tok) (led : List (Addr × Obj)) (hsub : ∀ p ∈ news, p ∈ led) (hdp : (dp, ({ cls := .type "tuple", data := .seq #[.int y v1, .int mo v2, .int d v3] } : Obj)) ∈ led) (hcp : (cp, ({ cls := .type "tuple", data := .seq #[.int h v4, .int i v5, .int sc v6] } : Obj)) ∈ led) (cn : Int) (hW : ∀ p v1 v2 v3 v4 v5 v6 t, ConG 6 187 (HasT6 p y mo d h i sc v1 v2 v3 v4 v5 v6) [.ref p, .int mode t] (TelV (.text (Str.ofString "ambiguous"))))
    (F : Fr h₀ L s.heap (kstB u [(Str.ofString "mode", .int mode t1), (Str.ofString "base", .int (pBase mode) t2), (Str.ofString "top", .int (pTop mode) t3), (Str.ofString "before", bv), (Str.ofString "date", .ref dp), (Str.ofString "clock", .ref cp), (Str.ofString "count", .int (cn) t4), (Str.ofString "wrong", .str (Str.ofString "ambiguous") t5)])) (N : News h₀ L s.heap led)
    (hcont : ∀ h tk m, Fr h₀ L h m → News h₀ L h news → Has m [(Str.ofString "mode", .int mode t1), (Str.ofString "base", .int (pBase mode) t2), (Str.ofString "top", .int (pTop mode) t3), (Str.ofString "before", bv)] → Q .cont { s with heap := h, toks := tk }) :
    wpAny (model PySem.Challenge.rw_fe0353_01.row.prog w) (callerA.deeper (lawE L a ccd)) (execs (writeBody.drop 11) (lawE L a ccd)) Q E s := by
  unfold lawE
  conv in (occs := *) lawS => all_goals whnf
  dsimp only
  revert X; k_fill; intro X
  dsimp only [kstB] at F
  conv in (writeBody) => whnf
  simp only [List.drop_succ_cons, List.drop_zero]
  k_steps
  all_goals exact hcont _ _ _ (by k_asm) (by refine news_drop' ?_ (by assumption); intro p9 hp9; have hp9 := hsub p9 hp9; simp only [List.mem_append, List.mem_cons, hp9, true_or, or_true]) (by walk_at "mine has")
end
/-- the walk begins as in a file of its own -/
theorem freshS9 : True := by w_top off; exact True.intro
section
local macro_rules | `(tactic| walk_at "call ref") => `(tactic| (k_here; k_dflt (refine' conG_use (hyp_w ?kp _ _ _ _ _ _ _ _) ?k1 ?k2 ?k3 ?k4 ?k5 ?kK ?kn ?kd ?ku ?_; (case k1 => k_asm); (case k2 => k_asm); (case k3 => k_asm); (case k4 => k_asm); (case k5 => k_asm); (case kK => first | assumption | exact rfl); (case kd => ktr_room); (case ku => ktr_units); (case kn => first | trivial | k_mem | walk_at "mine mem"); (case kp => with_reducible assumption); intro v9 tl9 h9 tk9 r9 F9 N9; obtain ⟨e9, t9, f9⟩ := r9; subst e9 f9; (try dsimp only [List.nil_append, List.cons_append] at N9); (try dsimp only); (try k_fold); (try k_sweep))))
local macro_rules | `(tactic| walk_at "call ref") => `(tactic| (k_here; k_dflt (refine' con_use (hyp_d ?kp _ _ _ _ _) ?k1 ?k2 ?k3 ?k4 ?k5 ?kK ?kn ?kd ?ku ?_; (case k1 => k_asm); (case k2 => k_asm); (case k3 => k_asm); (case k4 => k_asm); (case k5 => k_asm); (case kK => first | assumption | exact rfl); (case kd => ktr_room); (case ku => ktr_units); (case kn => first | trivial | k_mem | walk_at "mine mem"); (case kp => with_reducible assumption); intro v9 tl9 h9 tk9 r9 F9 N9; obtain ⟨e9, t9, f9⟩ := r9; subst e9 f9; (try dsimp only [List.nil_append, List.cons_append] at N9); (try dsimp only); (try k_fold); (try k_sweep))))
local macro_rules | `(tactic| walk_at "call ref") => `(tactic| (k_here; k_dflt (refine' conL_use (c_read _ ?kp ?kq) ?k1 ?k2 ?k3 ?k4 ?k5 ?kK ?kn ?kd ?ku ?_; (case k1 => k_asm); (case k2 => k_asm); (case k3 => k_asm); (case k4 => k_asm); (case k5 => k_asm); (case kK => first | assumption | exact rfl); (case kd => ktr_room); (case ku => ktr_units); (case kn => first | trivial | k_mem | walk_at "mine mem"); (case kp => exact vr3 (by assumption)); (case kq => first | assumption | omega); intro v9 tl9 h9 tk9 r9 F9 N9; skip; (try dsimp only [List.nil_append, List.cons_append] at N9); (try dsimp only); (try k_fold); (try k_sweep))))
set_option maxRecDepth 100000 in
set_option maxHeartbeats 8000000 in
theorem s_w2o (w : World) (mean : ExcName → Option Value) (mg mb : Str → Option Value) (a : Addr) (ccd : Value) (h₀ : Heap) (L : Addr) (u : Str → Option Value) (news : List (Addr × Obj)) (s : Shared) (Q : Flow → Shared → Prop) (E : Value → Shared → Prop)
    (B : Below callerA h₀ [] h₀) (X : (hd.heap_39 w.params).In h₀) (T : Top hd.view_39 (looseW hd.view_39 [Str.ofString "_law_edges"]) mean mg mb h₀)
    (mode : Int) (bv : Value) (t1 t2 t3 : Tok) (hm : mode = 0 ∨ mode = 1) (y mo d h i sc : Int) (dp cp : Addr) (v1 v2 v3 v4 v5 v6 t4 t5 : Tok) (led : List (Addr × Obj)) (hsub : ∀ p ∈ news, p ∈ led) (hdp : (dp, ({ cls := .type "tuple", data := .seq #[.int y v1, .int mo v2, .int d v3] } : Obj)) ∈ led) (hcp : (cp, ({ cls := .type "tuple", data := .seq #[.int h v4, .int i v5, .int sc v6] } : Obj)) ∈ led) (x : UInt64) (cn S : Int) (h1 : 0 ≤ h ∧ h < 24) (i1 : 0 ≤ i ∧ i < 60) (s1 : 0 ≤ sc ∧ sc < 60) (hW : ∀ p v1 v2 v3 v4 v5 v6 t, ConG 6 187 (HasT6 p y mo d h i sc v1 v2 v3 v4 v5 v6) [.ref p, .int mode t] (FltV x))
    (hD : ∀ p v1 v2 v3 t, Con 2 111 (HasT3 p y mo d v1 v2 v3) [.ref p, .int mode t] (FltV (Float64.ofInt cn)))
    (hf1 : ∀ t, VR (.float x t) cn S) (hf2 : ∀ t, VR (.float (tClock h i sc) t) 0 S) (hp1 : pRead cn S mode = .date y mo d h i sc) (hp2 : pRead 0 S mode = .date 0 0 0 h i sc)
    (hne : (Float64.cmpInt (Float64.ofInt cn) cn != some Ordering.eq) = false)
    (hle : (Float64.cmpInt x cn == some Ordering.gt || Float64.cmpInt x cn == some Ordering.eq) = true) (hlt : (Float64.cmpInt x (cn + 1) == some Ordering.lt) = true) 
    (F : Fr h₀ L s.heap (kstB u [(Str.ofString "mode", .int mode t1), (Str.ofString "base", .int (pBase mode) t2), (Str.ofString "top", .int (pTop mode) t3), (Str.ofString "before", bv), (Str.ofString "date", .ref dp), (Str.ofString "clock", .ref cp), (Str.ofString "count", .int (cn) t4), (Str.ofString "wrong", .str (Str.ofString "") t5)])) (N : News h₀ L s.heap led)
    (next : ∀ t6 led u hh tk, (dp, ({ cls := .type "tuple", data := .seq #[.int y v1, .int mo v2, .int d v3] } : Obj)) ∈ led → (cp, ({ cls := .type "tuple", data := .seq #[.int h v4, .int i v5, .int sc v6] } : Obj)) ∈ led → (∀ p ∈ news, p ∈ led) → Fr h₀ L hh (kstB u [(Str.ofString "mode", .int mode t1), (Str.ofString "base", .int (pBase mode) t2), (Str.ofString "top", .int (pTop mode) t3), (Str.ofString "before", bv), (Str.ofString "date", .ref dp), (Str.ofString "clock", .ref cp), (Str.ofString "told", .float x t6)]) → News h₀ L hh led → wpAny (model PySem.Challenge.rw_fe0353_01.row.prog w) (callerA.deeper (lawE L a ccd)) (execs (writeBody.drop 16) (lawE L a ccd)) Q E { s with heap := hh, toks := tk }) :
    wpAny (model PySem.Challenge.rw_fe0353_01.row.prog w) (callerA.deeper (lawE L a ccd)) (execs (writeBody.drop 11) (lawE L a ccd)) Q E s := by
  unfold lawE
  conv in (occs := *) lawS => all_goals whnf
  dsimp only
  revert X; k_fill; intro X
  dsimp only [kstB] at F
  refine my_seg (σ := Tok × List (Addr × Obj)) (h₀ := h₀) (L := L) 5 (fun c => [(Str.ofString "mode", .int mode t1), (Str.ofString "base", .int (pBase mode) t2), (Str.ofString "top", .int (pTop mode) t3), (Str.ofString "before", bv), (Str.ofString "date", .ref dp), (Str.ofString "clock", .ref cp), (Str.ofString "told", .float x c.1)]) (fun c => c.2) (fun c => ((dp, ({ cls := .type "tuple", data := .seq #[.int y v1, .int mo v2, .int d v3] } : Obj)) ∈ c.2 ∧ (cp, ({ cls := .type "tuple", data := .seq #[.int h v4, .int i v5, .int sc v6] } : Obj)) ∈ c.2) ∧ ∀ p ∈ news, p ∈ c.2) ?_ ?_
  rotate_left
  · rintro ⟨c1, c2⟩ u9 h9 tk9 ⟨⟨hP1, hP2⟩, hP3⟩ F9 N9
    exact next _ _ u9 h9 tk9 hP1 hP2 hP3 F9 N9
  conv in (writeBody) => whnf
  simp only [List.take_succ_cons, List.take_zero, List.drop_succ_cons, List.drop_zero]
  k_steps
  all_goals (refine cut_end (_, _) (by k_asm) (by assumption) (by (try dsimp only); walk_at "mine has") ?_ rfl rfl rfl; dsimp only)
  all_goals exact ⟨⟨by walk_at "mine mem", by walk_at "mine mem"⟩, by intro p9 hp9; have hp9 := hsub p9 hp9; simp only [List.mem_append, List.mem_cons, hp9, true_or, or_true]⟩
end
/-- the walk begins as in a file of its own -/
theorem freshS10 : True := by w_top off; exact True.intro
section
set_option maxRecDepth 100000 in
set_option maxHeartbeats 8000000 in
theorem s_w3n (w : World) (mean : ExcName → Option Value) (mg mb : Str → Option Value) (a : Addr) (ccd : Value) (h₀ : Heap) (L : Addr) (u : Str → Option Value) (news : List (Addr × Obj)) (s : Shared) (Q : Flow → Shared → Prop) (E : Value → Shared → Prop)
    (B : Below callerA h₀ [] h₀) (X : (hd.heap_39 w.params).In h₀) (T : Top hd.view_39 (looseW hd.view_39 [Str.ofString "_law_edges"]) mean mg mb h₀)
    (mode : Int) (t1 t2 t3 : Tok) (hm : mode = 0 ∨ mode = 1) (y mo d h i sc : Int) (dp cp : Addr) (x : UInt64) (v1 v2 v3 v4 v5 v6 t4 : Tok) (led : List (Addr × Obj)) (hsub : ∀ p ∈ news, p ∈ led) (hdp : (dp, ({ cls := .type "tuple", data := .seq #[.int y v1, .int mo v2, .int d v3] } : Obj)) ∈ led) (hcp : (cp, ({ cls := .type "tuple", data := .seq #[.int h v4, .int i v5, .int sc v6] } : Obj)) ∈ led) 
    (F : Fr h₀ L s.heap (kstB u [(Str.ofString "mode", .int mode t1), (Str.ofString "base", .int (pBase mode) t2), (Str.ofString "top", .int (pTop mode) t3), (Str.ofString "before", .none), (Str.ofString "date", .ref dp), (Str.ofString "clock", .ref cp), (Str.ofString "told", .float x t4)])) (N : News h₀ L s.heap led)
    (hnext : ∀ hh tk m pr q w1 w2 w3 w4 w5 w6 tx led, Fr h₀ L hh m → News h₀ L hh led → Has m [(Str.ofString "mode", .int mode t1), (Str.ofString "base", .int (pBase mode) t2), (Str.ofString "top", .int (pTop mode) t3), (Str.ofString "before", .ref pr)] → (q, ({ cls := .type "tuple", data := .seq #[.int y w1, .int mo w2, .int d w3, .int h w4, .int i w5, .int sc w6] } : Obj)) ∈ led → (pr, ({ cls := .type "tuple", data := .seq #[.ref q, .float x tx] } : Obj)) ∈ led → (∀ p ∈ news, p ∈ led) → Q .next { s with heap := hh, toks := tk }) :
    wpAny (model PySem.Challenge.rw_fe0353_01.row.prog w) (callerA.deeper (lawE L a ccd)) (execs (writeBody.drop 16) (lawE L a ccd)) Q E s := by
  unfold lawE
  conv in (occs := *) lawS => all_goals whnf
  dsimp only
  revert X; k_fill; intro X
  dsimp only [kstB] at F
  conv in (writeBody) => whnf
  simp only [List.drop_succ_cons, List.drop_zero]
  k_steps
  all_goals exact hnext _ _ _ _ _ _ _ _ _ _ _ _ _ (by k_asm) (by assumption) (by walk_at "mine has") (by walk_at "mine mem") (by walk_at "mine mem") (by intro p9 hp9; have hp9 := hsub p9 hp9; simp only [List.mem_append, List.mem_cons, hp9, true_or, or_true])
set_option maxRecDepth 100000 in
set_option maxHeartbeats 8000000 in
theorem s_w3s (w : World) (mean : ExcName → Option Value) (mg mb : Str → Option Value) (a : Addr) (ccd : Value) (h₀ : Heap) (L : Addr) (u : Str → Option Value) (news : List (Addr × Obj)) (s : Shared) (Q : Flow → Shared → Prop) (E : Value → Shared → Prop)
    (B : Below callerA h₀ [] h₀) (X : (hd.heap_39 w.params).In h₀) (T : Top hd.view_39 (looseW hd.view_39 [Str.ofString "_law_edges"]) mean mg mb h₀)
    (mode : Int) (t1 t2 t3 : Tok) (hm : mode = 0 ∨ mode = 1) (y mo d h i sc : Int) (dp cp : Addr) (x : UInt64) (v1 v2 v3 v4 v5 v6 t4 : Tok) (led : List (Addr × Obj)) (hsub : ∀ p ∈ news, p ∈ led) (hdp : (dp, ({ cls := .type "tuple", data := .seq #[.int y v1, .int mo v2, .int d v3] } : Obj)) ∈ led) (hcp : (cp, ({ cls := .type "tuple", data := .seq #[.int h v4, .int i v5, .int sc v6] } : Obj)) ∈ led) (pr q : Addr) (y0 mo0 d0 h0 i0 sc0 : Int) (x0 : UInt64) (w1 w2 w3 w4 w5 w6 tx : Tok) (hq : (q, ({ cls := .type "tuple", data := .seq #[.int y0 w1, .int mo0 w2, .int d0 w3, .int h0 w4, .int i0 w5, .int sc0 w6] } : Obj)) ∈ led) (hpr0 : (pr, ({ cls := .type "tuple", data := .seq #[.ref q, .float x0 tx] } : Obj)) ∈ led) (hord : (lexLt [y0, mo0, d0, h0, i0, sc0] [y, mo, d, h, i, sc] == (Float64.cmp x0 x == some Ordering.lt) && decide ([y0, mo0, d0, h0, i0, sc0] = [y, mo, d, h, i, sc]) == (Float64.cmp x0 x == some Ordering.eq)) = true) 
    (F : Fr h₀ L s.heap (kstB u [(Str.ofString "mode", .int mode t1), (Str.ofString "base", .int (pBase mode) t2), (Str.ofString "top", .int (pTop mode) t3), (Str.ofString "before", .ref pr), (Str.ofString "date", .ref dp), (Str.ofString "clock", .ref cp), (Str.ofString "told", .float x t4)])) (N : News h₀ L s.heap led)
    (hnext : ∀ hh tk m pr q w1 w2 w3 w4 w5 w6 tx led, Fr h₀ L hh m → News h₀ L hh led → Has m [(Str.ofString "mode", .int mode t1), (Str.ofString "base", .int (pBase mode) t2), (Str.ofString "top", .int (pTop mode) t3), (Str.ofString "before", .ref pr)] → (q, ({ cls := .type "tuple", data := .seq #[.int y w1, .int mo w2, .int d w3, .int h w4, .int i w5, .int sc w6] } : Obj)) ∈ led → (pr, ({ cls := .type "tuple", data := .seq #[.ref q, .float x tx] } : Obj)) ∈ led → (∀ p ∈ news, p ∈ led) → Q .next { s with heap := hh, toks := tk }) :
    wpAny (model PySem.Challenge.rw_fe0353_01.row.prog w) (callerA.deeper (lawE L a ccd)) (execs (writeBody.drop 16) (lawE L a ccd)) Q E s := by
  unfold lawE
  conv in (occs := *) lawS => all_goals whnf
  dsimp only
  revert X; k_fill; intro X
  dsimp only [kstB] at F
  conv in (writeBody) => whnf
  simp only [List.drop_succ_cons, List.drop_zero]
  k_steps
  all_goals exact hnext _ _ _ _ _ _ _ _ _ _ _ _ _ (by k_asm) (by assumption) (by walk_at "mine has") (by walk_at "mine mem") (by walk_at "mine mem") (by intro p9 hp9; have hp9 := hsub p9 hp9; simp only [List.mem_append, List.mem_cons, hp9, true_or, or_true])
end
section
open PySem.Float64
theorem part_reads {whole part : Int} (hp : -1 ≤ whole ∧ whole < 2958500) (hq : 0 ≤ part ∧ part < 262144) : ∃ S, (0 ≤ S ∧ S ≤ 86400) ∧ ((part * 675).fmod 2048 < 1024 → S = (part * 675).fdiv 2048) ∧ (1024 < (part * 675).fmod 2048 → S = (part * 675).fdiv 2048 + 1) ∧
    ((part * 675).fmod 2048 = 1024 → S = (part * 675).fdiv 2048 ∨ S = (part * 675).fdiv 2048 + 1) ∧ (0 ≤ (part * 675).fdiv 2048 ∧ (part * 675).fdiv 2048 ≤ 86399) ∧
    (part = 0 → ∀ t, VR (.int whole t) whole S) ∧ (0 < part → ∀ t, VR (.float (pX whole part) t) whole S) := by
  rw [Int.fmod_eq_emod_of_nonneg _ (by decide), Int.fdiv_eq_ediv_of_nonneg _ (by decide)]
  obtain ⟨p0, p5, p6, p17, p22, p54, p48, p49, p37, p32⟩ := two_pows
  have hu := U_pos
  by_cases h0 : part = 0
  · subst h0
    refine ⟨0, by omega, by omega, by omega, by omega, by omega, fun _ t => .inr (.inr (.inr ⟨t, rfl, rfl, by omega, by omega⟩)), fun h => absurd h (by decide)⟩
  have hpos : 0 < part := by omega
  have eb : (decide (part < 0) != decide ((262144 : Int) < 0)) = false := by
    have : ¬ part < 0 := by omega
    simp [this]
  have en : ((part.natAbs : Nat) : Int) = part := by omega
  have pU := Int.mul_le_mul_of_nonneg_right (show 1 ≤ part by omega) (Int.le_of_lt hu)
  have pU2 := Int.mul_le_mul_of_nonneg_right (show part ≤ 262143 by omega) (Int.le_of_lt hu)
  obtain ⟨f1, f2, f3⟩ := f_frac part.natAbs 262144 0 (by decide) (by decide) (by rw [p0, en]; omega)
  rw [en] at f3
  unfold Nr at f3
  simp only [show 54 - 0 = 54 from rfl, p54] at f3
  obtain ⟨i1, i2⟩ := f_int whole (by omega)
  have wU := Int.mul_le_mul_of_nonneg_right (show whole ≤ 2958499 by omega) (Int.le_of_lt hu)
  have wU0 := Int.mul_le_mul_of_nonneg_right (show -1 ≤ whole by omega) (Int.le_of_lt hu)
  have e1 : (whole + 1) * U = whole * U + U := by rw [Int.add_mul, Int.one_mul]
  have hX : pX whole part = add (ofInt whole) (ofFrac false part.natAbs 262144) := by
    show add (ofInt whole) (ofFrac (decide (part < 0) != decide ((262144 : Int) < 0)) part.natAbs (Int.natAbs 262144)) = _
    rw [eb]
    rfl
  rw [hX]
  generalize ofFrac false part.natAbs 262144 = vf at *
  obtain ⟨a1, a2, a3, a4⟩ := f_add 22 (by decide) i1 f1 (by rw [i2, p22]; omega)
  rw [i2] at a4
  unfold Nr at a4
  simp only [show 54 - 22 = 32 from rfl, p32] at a4
  generalize add (ofInt whole) vf = x at *
  have hdm : part * 675 = 2048 * (part * 675 / 2048) + part * 675 % 2048 := (Int.mul_ediv_add_emod _ _).symm
  have hov : 0 ≤ part * 675 % 2048 ∧ part * 675 % 2048 < 2048 := by omega
  have hsec : 0 ≤ part * 675 / 2048 ∧ part * 675 / 2048 ≤ 86399 := by omega
  by_cases hw : whole = -1
  · subst hw
    have hneg : val x < 0 := by
      have : (-1 : Int) * U = -U := by omega
      omega
    have hvr : ∀ (S : Int) t, VR (.float x t) (-1) S := fun S t => .inr (.inr (.inl ⟨x, t, rfl, by rw [cmp_of a1 fn_0.1, fn_0.2, ord_eq]; simp; omega, by rw [cmp_of a1 fn_0.1, fn_0.2, ord_lt]; simp; omega, by decide⟩))
    by_cases hc : part * 675 % 2048 ≤ 1024
    · exact ⟨part * 675 / 2048, by omega, by omega, by omega, by omega, hsec, fun h => absurd h h0, fun _ => hvr _⟩
    · exact ⟨part * 675 / 2048 + 1, by omega, by omega, by omega, by omega, hsec, fun h => absurd h h0, fun _ => hvr _⟩
  · have wU1 := Int.mul_nonneg (show 0 ≤ whole by omega) (Int.le_of_lt hu)
    obtain ⟨S, g1, g2, g3⟩ := fr_near a1 (by omega) (by omega) (by rw [e1]; omega) (show 0 ≤ whole ∧ whole < 2999000 by omega)
    have hpU : part * U * 675 = 2048 * (part * 675 / 2048 * U) + part * 675 % 2048 * U := by
      have h9 : part * 675 * U = (2048 * (part * 675 / 2048) + part * 675 % 2048) * U := congrArg (· * U) hdm
      rw [Int.mul_right_comm, h9, Int.add_mul, Int.mul_assoc]
    generalize part * 675 / 2048 = sec at *
    generalize part * 675 % 2048 = ov at *
    have e2 : (sec + 1) * U = sec * U + U := by rw [Int.add_mul, Int.one_mul]
    have e3 : (S + 1) * U = S * U + U := by rw [Int.add_mul, Int.one_mul]
    have e4 : (sec + 1 + 1) * U = sec * U + 2 * U := by rw [Int.add_mul, Int.add_mul, Int.one_mul]; omega
    have oU0 := Int.mul_nonneg hov.1 (Int.le_of_lt hu)
    have oU := Int.mul_le_mul_of_nonneg_right (show ov ≤ 2047 by omega) (Int.le_of_lt hu)
    have hlo : sec ≤ S := by
      apply le_of_U
      omega
    have hhi : S ≤ sec + 1 := by
      apply le_of_U
      rw [e4]
      omega
    refine ⟨S, g1.s, ?_, ?_, ?_, hsec, fun h => absurd h h0, fun _ t => .inl ⟨x, t, rfl, g1⟩⟩
    · intro h
      have := Int.mul_le_mul_of_nonneg_right (show ov ≤ 1023 by omega) (Int.le_of_lt hu)
      have : S ≤ sec := by
        apply le_of_U
        omega
      omega
    · intro h
      have := Int.mul_le_mul_of_nonneg_right (show 1025 ≤ ov by omega) (Int.le_of_lt hu)
      have : sec + 1 ≤ S := by
        apply le_of_U
        omega
      omega
    · intro _
      omega
end
section
theorem month_of {y r : Int} (h0 : 0 ≤ r) : ∀ k : Nat, r < pCum y ((k : Int) + 1) → ∃ m, 1 ≤ m ∧ m ≤ (k : Int) ∧ pCum y m ≤ r ∧ r < pCum y (m + 1)
  | 0, h => by
    have := pCum_one y
    simp at h
    omega
  | k + 1, h => by
    by_cases h2 : pCum y ((k : Int) + 1) ≤ r
    · exact ⟨(k : Int) + 1, by omega, by omega, h2, by simpa using h⟩
    · obtain ⟨m, a, b, c, d⟩ := month_of (y := y) h0 k (by omega)
      exact ⟨m, a, by omega, c, d⟩
theorem cum_up {y m : Int} (h1 : 1 ≤ m) : ∀ n : Nat, m + (n : Int) ≤ 13 → pCum y m ≤ pCum y (m + (n : Int))
  | 0, _ => by simp
  | n + 1, h => by
    have ih := cum_up (y := y) h1 n (by omega)
    have s := pCum_step y (m + (n : Int)) (by omega)
    have l := pLong_pos y (m + (n : Int)) (by omega) (by omega)
    have e : m + ((n + 1 : Nat) : Int) = m + (n : Int) + 1 := by omega
    rw [e]
    omega
theorem cum_mono {y m m' : Int} (h1 : 1 ≤ m) (h : m ≤ m') (h2 : m' ≤ 13) : pCum y m ≤ pCum y m' := by
  have := cum_up (y := y) h1 (m' - m).toNat (by omega)
  have e : m + (((m' - m).toNat : Nat) : Int) = m' := by omega
  rwa [e] at this
theorem cum_le {y m : Int} (h1 : 1 ≤ m) (h2 : m ≤ 12) : 0 ≤ pCum y m ∧ pCum y m + pLong y m ≤ pCum y 13 := by
  have a := cum_mono (y := y) (m := 1) (m' := m) (by decide) h1 (by omega)
  have b := cum_mono (y := y) (m := m + 1) (m' := 13) (by omega) (by omega) (by decide)
  rw [pCum_one] at a
  rw [pCum_step y m h1] at b
  exact ⟨a, b⟩
/-- a date's count lies in its year -/
theorem count_in {y m d : Int} (h1 : 1 ≤ m) (h2 : m ≤ 12) (h3 : 1 ≤ d) (h4 : d ≤ pLong y m) : pFirst y ≤ pCount y m d ∧ pCount y m d < pFirst (y + 1) := by
  have c := cum_le (y := y) h1 h2
  have l := year_len y
  unfold pCount
  omega
theorem first_mono {y y' : Int} (h : y ≤ y') : pFirst y ≤ pFirst y' := by
  unfold pFirst; omega
theorem year_of {c : Int} (h : 693000 ≤ c) : ∃ y, pFirst y ≤ c ∧ c < pFirst (y + 1) := by
  obtain ⟨a, b⟩ := date_year0 h
  rw [Int.fdiv_eq_ediv_of_nonneg _ (by decide)] at a b
  generalize hy : (c * 400) / 146097 = y at *
  by_cases h1 : c < pFirst (y + 1)
  · exact ⟨y, a, h1⟩
  · by_cases h2 : c < pFirst (y + 1 + 1)
    · exact ⟨y + 1, by omega, h2⟩
    · refine ⟨y + 1 + 1, by omega, ?_⟩
      unfold pFirst at *
      omega
theorem date_exists {c : Int} (h : 693000 ≤ c) : ∃ y m d, DateIs c y m d := by
  obtain ⟨y, a, b⟩ := year_of h
  have l := year_len y
  obtain ⟨m, m1, m2, m3, m4⟩ := month_of (y := y) (r := c - pFirst y) (by omega) 12 (by
    show c - pFirst y < pCum y 13
    omega)
  have m2' : m ≤ 12 := m2
  have s := pCum_step y m m1
  exact ⟨y, m, c - pFirst y - pCum y m + 1, m1, m2', by omega, by omega, by unfold pCount; omega⟩
/-- a valid date within the counts, and a clock -/
structure Val (mode y mo d h i sc : Int) : Prop where
  hy : 1900 ≤ y ∧ y ≤ 9999
  hmo : 1 ≤ mo ∧ mo ≤ 12
  hd1 : 1 ≤ d
  hd2 : d ≤ pLong y mo
  hc : 0 < pCount y mo d - pBase mode ∧ pCount y mo d - pBase mode < 3000000
  ha : pCount y mo d - pBase mode < 61 → mode = 1
  h1 : 0 ≤ h ∧ h < 24
  i1 : 0 ≤ i ∧ i < 60
  s1 : 0 ≤ sc ∧ sc < 60
theorem clk_sum {s : Int} (h : 0 ≤ s ∧ s ≤ 86399) : (0 ≤ s / 3600 ∧ s / 3600 < 24) ∧ (0 ≤ s / 60 % 60 ∧ s / 60 % 60 < 60) ∧ (0 ≤ s % 60 ∧ s % 60 < 60) ∧ 3600 * (s / 3600) + 60 * (s / 60 % 60) + s % 60 = s := by omega
theorem clk_back {h i sc : Int} (h1 : 0 ≤ h ∧ h < 24) (i1 : 0 ≤ i ∧ i < 60) (s1 : 0 ≤ sc ∧ sc < 60) : (3600 * h + 60 * i + sc) / 3600 = h ∧ (3600 * h + 60 * i + sc) / 60 % 60 = i ∧ (3600 * h + 60 * i + sc) % 60 = sc ∧ 0 ≤ 3600 * h + 60 * i + sc ∧ 3600 * h + 60 * i + sc ≤ 86399 := by omega
/-- a valid date's number is read as that date -/
theorem val_read {mode y mo d h i sc : Int} (hm : mode = 0 ∨ mode = 1) (V : Val mode y mo d h i sc) : pRead (pCount y mo d - pBase mode) (3600 * h + 60 * i + sc) mode = .date y mo d h i sc := by
  obtain ⟨k1, k2, k3, k4, k5⟩ := clk_back V.h1 V.i1 V.s1
  have D : DateIs (pCount y mo d) y mo d := ⟨V.hmo.1, V.hmo.2, V.hd1, V.hd2, rfl⟩
  obtain ⟨e1, e2, e3⟩ := alg_eq (by have := V.hy.1; omega) D
  have ci := count_in V.hmo.1 V.hmo.2 V.hd1 V.hd2
  have fm := first_mono (show y + 1 ≤ 10000 by have := V.hy.2; omega)
  have f10 : pFirst 10000 = 3652059 := by decide
  have hb : pTop mode = 3652059 - pBase mode := by rcases hm with rfl | rfl <;> rfl
  have hj := jd_base hm
  have hc := V.hc
  have ha := V.ha
  rw [pRead_ws (w := pCount y mo d - pBase mode) (s := 3600 * h + 60 * i + sc) (by omega) (.inr ⟨by omega, rfl, rfl⟩), if_neg (by omega), if_neg (by omega), if_neg (by
    rintro ⟨q1, q2⟩
    have := ha q1
    omega), k1, k2, k3, hj, show pCount y mo d - pBase mode + (pBase mode + 1721426) = pCount y mo d + 1721426 by omega, e1, e2, e3]
theorem zero_read {mode h i sc : Int} (hm : mode = 0 ∨ mode = 1) (h1 : 0 ≤ h ∧ h < 24) (i1 : 0 ≤ i ∧ i < 60) (s1 : 0 ≤ sc ∧ sc < 60) : pRead 0 (3600 * h + 60 * i + sc) mode = .date 0 0 0 h i sc := by
  obtain ⟨k1, k2, k3, k4, k5⟩ := clk_back h1 i1 s1
  have hb : 0 < pTop mode := by rcases hm with rfl | rfl <;> decide
  rw [pRead_ws (w := 0) (s := 3600 * h + 60 * i + sc) (by omega) (.inr ⟨by omega, rfl, rfl⟩), if_neg (by omega), if_pos rfl, k1, k2, k3]
/-- what was read as a date is a valid one -/
theorem read_val {whole S mode y mo d h i sc : Int} (hm : mode = 0 ∨ mode = 1) (hS : 0 ≤ S ∧ S ≤ 86400) (hr : pRead whole S mode = .date y mo d h i sc) (hy : 0 < y) : Val mode y mo d h i sc := by
  have h0 : ¬ whole < 0 := by
    intro q
    rw [pRead_neg q] at hr
    cases hr
  obtain ⟨w, s, hs, hw, hss⟩ : ∃ w s, WS whole S w s ∧ 0 ≤ w ∧ (0 ≤ s ∧ s ≤ 86399) := by
    by_cases e : S = 86400
    · exact ⟨whole + 1, 0, .inl ⟨e, rfl, rfl⟩, by omega, by omega⟩
    · exact ⟨whole, S, .inr ⟨e, rfl, rfl⟩, by omega, by omega⟩
  rw [pRead_ws h0 hs] at hr
  by_cases c1 : w ≥ pTop mode
  · rw [if_pos c1] at hr; cases hr
  rw [if_neg c1] at hr
  by_cases c2 : w = 0
  · rw [if_pos c2] at hr
    injection hr with e1
    omega
  rw [if_neg c2] at hr
  by_cases c3 : w < 61 ∧ mode = 0
  · rw [if_pos c3] at hr; cases hr
  rw [if_neg c3] at hr
  injection hr with e1 e2 e3 e4 e5 e6
  have hj := jd_base hm
  have hb : pTop mode = 3652059 - pBase mode ∧ 693593 ≤ pBase mode ∧ (mode = 1 → pBase mode = 695055) ∧ pBase mode ≤ 695055 := by rcases hm with rfl | rfl <;> decide
  have hc : 693654 ≤ pBase mode + w := by
    rcases hm with rfl | rfl
    · omega
    · have := hb.2.2.1 rfl
      omega
  obtain ⟨y', m', d', D⟩ := date_exists (c := pBase mode + w) (by omega)
  have hyp := year_pos (by omega) D
  obtain ⟨q1, q2, q3⟩ := alg_eq hyp D
  have ec : w + pJd mode = pBase mode + w + 1721426 := by rw [hj]; omega
  rw [ec, q1] at e1
  rw [ec, q2] at e2
  rw [ec, q3] at e3
  subst e1 e2 e3
  obtain ⟨d1, d2, d3, d4, d5⟩ := D
  have ci := count_in d1 d2 d3 d4
  rw [d5] at ci
  have f10 : pFirst 10000 = 3652059 := by decide
  have f19 : pFirst 1900 = 693595 := by decide
  obtain ⟨k1, k2, k3, _⟩ := clk_sum hss
  have y1 : 1900 ≤ y' := by
    rcases Int.lt_or_le y' 1900 with q | q
    · have := first_mono (show y' + 1 ≤ 1900 by omega)
      omega
    · exact q
  have y2 : y' ≤ 9999 := by
    rcases Int.lt_or_le 9999 y' with q | q
    · have := first_mono (show 10000 ≤ y' by omega)
      omega
    · exact q
  refine ⟨⟨y1, y2⟩, ⟨d1, d2⟩, d3, d4, by rw [d5]; omega, ?_, by rw [← e4]; exact k1, by rw [← e5]; exact k2, by rw [← e6]; exact k3⟩
  rw [d5]
  intro q
  rcases hm with rfl | rfl
  · exact absurd ⟨by omega, rfl⟩ c3
  · rfl
end
section
open PySem.Float64
theorem cmp_self {k : Int} (h : k.natAbs ≤ 2 ^ 53) : (cmpInt (ofInt k) k != some Ordering.eq) = false := by
  obtain ⟨i1, i2⟩ := f_int k h
  have e := cmpInt_of i1 k
  rw [e, i2]
  simp
theorem days_count {y mo d : Int} (hy : 1900 ≤ y ∧ y ≤ 9999) (hmo : 1 ≤ mo ∧ mo ≤ 12) (hd1 : 1 ≤ d) (hd2 : d ≤ pLong y mo) : pDays y mo d = pCount y mo d := by
  rw [pDays, if_pos ⟨hy.1, hy.2, hmo.1, hmo.2, hd1, hd2⟩]
/-- six numbers that were written, and the number that they are -/
def WOk (mode y mo d h i sc : Int) (x : UInt64) : Prop :=
  (0 ≤ h ∧ h < 24) ∧ (0 ≤ i ∧ i < 60) ∧ (0 ≤ sc ∧ sc < 60) ∧ ∃ c, x = add (ofInt c) (tClock h i sc) ∧ (0 ≤ c ∧ c < 2999000) ∧
    ((y = 0 ∧ mo = 0 ∧ d = 0 ∧ c = 0) ∨ ((1900 ≤ y ∧ y ≤ 9999) ∧ (1 ≤ mo ∧ mo ≤ 12) ∧ 1 ≤ d ∧ d ≤ pLong y mo ∧ c = pCount y mo d - pBase mode ∧ 0 < c))
theorem count_lt {y mo d y' mo' d' : Int} (h1 : 1 ≤ mo ∧ mo ≤ 12) (h2 : 1 ≤ d) (h3 : d ≤ pLong y mo) (h1' : 1 ≤ mo' ∧ mo' ≤ 12) (h2' : 1 ≤ d') (h3' : d' ≤ pLong y' mo')
    (h : y < y' ∨ (y = y' ∧ (mo < mo' ∨ (mo = mo' ∧ d < d')))) : pCount y mo d < pCount y' mo' d' := by
  have a := count_in h1.1 h1.2 h2 h3
  have b := count_in h1'.1 h1'.2 h2' h3'
  rcases h with h | ⟨rfl, h | ⟨rfl, h⟩⟩
  · have := first_mono (show y + 1 ≤ y' by omega)
    omega
  · have m := cum_mono (y := y) (m := mo + 1) (m' := mo') (by omega) (by omega) (by omega)
    rw [pCum_step y mo h1.1] at m
    unfold pCount
    omega
  · unfold pCount
    omega
theorem lex6 {a b c d e f a' b' c' d' e' f' : Int} : lexLt [a, b, c, d, e, f] [a', b', c', d', e', f'] = true ↔
    ((a < a' ∨ (a = a' ∧ (b < b' ∨ (b = b' ∧ c < c')))) ∨ ((a = a' ∧ b = b' ∧ c = c') ∧ (d < d' ∨ (d = d' ∧ (e < e' ∨ (e = e' ∧ f < f')))))) := by
  unfold lexLt
  split
  · rename_i h1; subst h1
    unfold lexLt
    split
    · rename_i h2; subst h2
      unfold lexLt
      split
      · rename_i h3; subst h3
        unfold lexLt
        split
        · rename_i h4; subst h4
          unfold lexLt
          split
          · rename_i h5; subst h5
            unfold lexLt
            split
            · rename_i h6; subst h6
              simp [lexLt]
            · simp
          · simp only [decide_eq_true_eq, Int.lt_irrefl, false_or, true_and, and_self, and_true]; omega
        · simp only [decide_eq_true_eq, Int.lt_irrefl, false_or, true_and, and_self, and_true]; omega
      · simp only [decide_eq_true_eq, Int.lt_irrefl, false_or, true_and, and_self, and_true]; omega
    · simp only [decide_eq_true_eq, Int.lt_irrefl, false_or, true_and, and_self, and_true]; omega
  · simp only [decide_eq_true_eq, Int.lt_irrefl, false_or, true_and, and_self, and_true]; omega
/-- counts stand as their dates do -/
theorem date_ord {y mo d c y' mo' d' c' base : Int}
    (h : (y = 0 ∧ mo = 0 ∧ d = 0 ∧ c = 0) ∨ ((1900 ≤ y ∧ y ≤ 9999) ∧ (1 ≤ mo ∧ mo ≤ 12) ∧ 1 ≤ d ∧ d ≤ pLong y mo ∧ c = pCount y mo d - base ∧ 0 < c))
    (h' : (y' = 0 ∧ mo' = 0 ∧ d' = 0 ∧ c' = 0) ∨ ((1900 ≤ y' ∧ y' ≤ 9999) ∧ (1 ≤ mo' ∧ mo' ≤ 12) ∧ 1 ≤ d' ∧ d' ≤ pLong y' mo' ∧ c' = pCount y' mo' d' - base ∧ 0 < c')) :
    ((y < y' ∨ (y = y' ∧ (mo < mo' ∨ (mo = mo' ∧ d < d')))) ∧ c < c') ∨ ((y = y' ∧ mo = mo' ∧ d = d') ∧ c = c') ∨ ((y' < y ∨ (y' = y ∧ (mo' < mo ∨ (mo' = mo ∧ d' < d)))) ∧ c' < c) := by
  rcases h with ⟨rfl, rfl, rfl, rfl⟩ | ⟨a1, a2, a3, a4, rfl, a6⟩
  · rcases h' with ⟨rfl, rfl, rfl, rfl⟩ | ⟨b1, b2, b3, b4, rfl, b6⟩
    · right; left; exact ⟨⟨rfl, rfl, rfl⟩, rfl⟩
    · left; exact ⟨.inl (by omega), b6⟩
  · rcases h' with ⟨rfl, rfl, rfl, rfl⟩ | ⟨b1, b2, b3, b4, rfl, b6⟩
    · right; right; exact ⟨.inl (by omega), a6⟩
    · have tri : (y < y' ∨ (y = y' ∧ (mo < mo' ∨ (mo = mo' ∧ d < d')))) ∨ (y = y' ∧ mo = mo' ∧ d = d') ∨ (y' < y ∨ (y' = y ∧ (mo' < mo ∨ (mo' = mo ∧ d' < d)))) := by omega
      rcases tri with t | t | t
      · left
        have := count_lt a2 a3 a4 b2 b3 b4 t
        exact ⟨t, by omega⟩
      · right; left
        obtain ⟨rfl, rfl, rfl⟩ := t
        exact ⟨⟨rfl, rfl, rfl⟩, rfl⟩
      · right; right
        have := count_lt b2 b3 b4 a2 a3 a4 t
        exact ⟨t, by omega⟩
theorem val_lt {c S c' S' v v' : Int} (hS : 0 ≤ S ∧ S ≤ 86399) (hS' : 0 ≤ S' ∧ S' ≤ 86399) (a1 : 32768 * (86400 * v - (86400 * c + S) * U) ≤ U) (b2 : -U ≤ 32768 * (86400 * v' - (86400 * c' + S') * U))
    (h : c < c' ∨ (c = c' ∧ S < S')) : v < v' := by
  have hu := U_pos
  have hK : 86400 * c + S + 1 ≤ 86400 * c' + S' := by omega
  have m := Int.mul_le_mul_of_nonneg_right hK (Int.le_of_lt hu)
  rw [Int.add_mul, Int.one_mul] at m
  generalize (86400 * c + S) * U = A at *
  generalize (86400 * c' + S') * U = B at *
  omega
/-- two dates with their clocks stand as their numbers do -/
theorem ord_ok {mode y0 mo0 d0 h0 i0 sc0 y mo d h i sc : Int} {x0 x : UInt64} (W0 : WOk mode y0 mo0 d0 h0 i0 sc0 x0) (W : WOk mode y mo d h i sc x) :
    (lexLt [y0, mo0, d0, h0, i0, sc0] [y, mo, d, h, i, sc] == (cmp x0 x == some Ordering.lt) && decide ([y0, mo0, d0, h0, i0, sc0] = [y, mo, d, h, i, sc]) == (cmp x0 x == some Ordering.eq)) = true := by
  obtain ⟨p1, p2, p3, c0, rfl, pc, pd⟩ := W0
  obtain ⟨q1, q2, q3, c, rfl, qc, qd⟩ := W
  obtain ⟨a1, a2, a3, a4, a5, a6⟩ := told_near pc p1 p2 p3
  obtain ⟨b1, b2, b3, b4, b5, b6⟩ := told_near qc q1 q2 q3
  have kp := clk_back p1 p2 p3
  have kq := clk_back q1 q2 q3
  rw [cmp_of a1 b1, ord_lt, ord_eq]
  have D := date_ord pd qd
  have C : ((h0 < h ∨ (h0 = h ∧ (i0 < i ∨ (i0 = i ∧ sc0 < sc)))) ∧ 3600 * h0 + 60 * i0 + sc0 < 3600 * h + 60 * i + sc) ∨ ((h0 = h ∧ i0 = i ∧ sc0 = sc) ∧ 3600 * h0 + 60 * i0 + sc0 = 3600 * h + 60 * i + sc) ∨
      ((h < h0 ∨ (h = h0 ∧ (i < i0 ∨ (i = i0 ∧ sc < sc0)))) ∧ 3600 * h + 60 * i + sc < 3600 * h0 + 60 * i0 + sc0) := by
    clear a1 a2 a3 a4 a5 a6 b1 b2 b3 b4 b5 b6 D pd qd
    omega
  have lt := fun hh => val_lt kp.2.2.2 kq.2.2.2 a5 b6 hh
  have gt := fun hh => val_lt kq.2.2.2 kp.2.2.2 b5 a6 hh
  by_cases e : [y0, mo0, d0, h0, i0, sc0] = [y, mo, d, h, i, sc]
  · injection e with e1 e
    injection e with e2 e
    injection e with e3 e
    injection e with e4 e
    injection e with e5 e
    injection e with e6 e
    subst e1 e2 e3 e4 e5 e6
    have ec : c0 = c := by
      rcases D with ⟨t, _⟩ | ⟨_, t⟩ | ⟨t, _⟩
      · omega
      · exact t
      · omega
    subst ec
    have nl : lexLt [y0, mo0, d0, h0, i0, sc0] [y0, mo0, d0, h0, i0, sc0] = false := by
      rw [Bool.eq_false_iff, ne_eq, lex6]
      omega
    rw [nl]
    simp
  · have de : decide ([y0, mo0, d0, h0, i0, sc0] = [y, mo, d, h, i, sc]) = false := by simpa using e
    rw [de]
    by_cases l : lexLt [y0, mo0, d0, h0, i0, sc0] [y, mo, d, h, i, sc] = true
    · rw [l]
      rw [lex6] at l
      have v := lt (by
        rcases l with l1 | ⟨l1, l2⟩
        · rcases D with ⟨_, t⟩ | ⟨⟨t1, t2, t3⟩, _⟩ | ⟨t, _⟩
          · exact .inl t
          · exfalso; clear lt gt a1 a2 a3 a4 a5 a6 b1 b2 b3 b4 b5 b6 pd qd C; omega
          · exfalso; clear lt gt a1 a2 a3 a4 a5 a6 b1 b2 b3 b4 b5 b6 pd qd C; omega
        · right
          constructor
          · rcases D with ⟨t, _⟩ | ⟨_, t⟩ | ⟨t, _⟩
            · exfalso; clear lt gt a1 a2 a3 a4 a5 a6 b1 b2 b3 b4 b5 b6 pd qd C; omega
            · exact t
            · exfalso; clear lt gt a1 a2 a3 a4 a5 a6 b1 b2 b3 b4 b5 b6 pd qd C; omega
          · rcases C with ⟨_, t⟩ | ⟨⟨t1, t2, t3⟩, _⟩ | ⟨t, _⟩
            · exact t
            · exfalso; clear lt gt a1 a2 a3 a4 a5 a6 b1 b2 b3 b4 b5 b6 pd qd D; omega
            · exfalso; clear lt gt a1 a2 a3 a4 a5 a6 b1 b2 b3 b4 b5 b6 pd qd D; omega)
      have v1 : ¬ val (add (ofInt c0) (tClock h0 i0 sc0)) = val (add (ofInt c) (tClock h i sc)) := by omega
      simp [v, v1]
    · have l' : lexLt [y0, mo0, d0, h0, i0, sc0] [y, mo, d, h, i, sc] = false := by simpa using l
      rw [l']
      rw [lex6] at l
      have ne : ¬ ((y0 = y ∧ mo0 = mo ∧ d0 = d) ∧ (h0 = h ∧ i0 = i ∧ sc0 = sc)) := by
        rintro ⟨⟨rfl, rfl, rfl⟩, rfl, rfl, rfl⟩
        exact e rfl
      have v := gt (by
        rcases D with ⟨t, _⟩ | ⟨t, tc⟩ | ⟨_, t⟩
        · exact absurd (.inl t) l
        · rcases C with ⟨t2, _⟩ | ⟨t2, _⟩ | ⟨_, t2⟩
          · exact absurd (.inr ⟨t, t2⟩) l
          · exact absurd ⟨t, t2⟩ ne
          · exact .inr ⟨tc.symm, t2⟩
        · exact .inl t)
      have v1 : ¬ val (add (ofInt c0) (tClock h0 i0 sc0)) = val (add (ofInt c) (tClock h i sc)) := by omega
      have v2 : ¬ val (add (ofInt c0) (tClock h0 i0 sc0)) < val (add (ofInt c) (tClock h i sc)) := by omega
      simp [v1, v2]
/-- what is written lies in its day -/
theorem told_in {h i sc : Int} {x : UInt64} {c : Int} (hc : 0 ≤ c ∧ c < 2999000) (h1 : 0 ≤ h ∧ h < 24) (i1 : 0 ≤ i ∧ i < 60) (s1 : 0 ≤ sc ∧ sc < 60) (hx : x = add (ofInt c) (tClock h i sc)) :
    (cmpInt x c == some Ordering.gt || cmpInt x c == some Ordering.eq) = true ∧ (cmpInt x (c + 1) == some Ordering.lt) = true := by
  subst hx
  obtain ⟨a1, a2, a3, a4, a5, a6⟩ := told_near hc h1 i1 s1
  rw [cmpInt_of a1, cmpInt_of a1, ord_gt, ord_eq, ord_lt]
  constructor
  · simp only [Bool.or_eq_true, decide_eq_true_eq]
    omega
  · simpa using a4

theorem clock_vr {h i sc : Int} (h1 : 0 ≤ h ∧ h < 24) (i1 : 0 ≤ i ∧ i < 60) (s1 : 0 ≤ sc ∧ sc < 60) (t : Tok) : VR (.float (tClock h i sc) t) 0 (3600 * h + 60 * i + sc) := by
  have hu := U_pos
  obtain ⟨c1, c2, c3, c4, c5⟩ := clock_near h1 i1 s1
  obtain ⟨_, _, _, k4, k5⟩ := clk_back h1 i1 s1
  by_cases hS : 0 < 3600 * h + 60 * i + sc
  · left
    have a1 := Int.mul_le_mul_of_nonneg_right (show 1 ≤ 3600 * h + 60 * i + sc by omega) (Int.le_of_lt hu)
    have a2 := Int.mul_le_mul_of_nonneg_right k5 (Int.le_of_lt hu)
    obtain ⟨S, f1, f2, f3⟩ := fr_near (n := 0) c1 (by omega) (by omega) (by omega) (by omega)
    have e : S = 3600 * h + 60 * i + sc := near_same (v := 86400 * val (tClock h i sc)) (by omega) (by omega) (by omega) (by omega)
    rw [← e]
    exact ⟨_, t, rfl, f1⟩
  · have e1 : 3600 * h + 60 * i + sc = 0 := by omega
    refine .inr (.inl ⟨_, t, rfl, ?_, rfl, e1⟩)
    rw [cmp_of c1 fn_0.1, fn_0.2, ord_eq, c3 e1]
    simp
theorem bad_day {y mo d : Int} (hmo : 1 ≤ mo ∧ mo ≤ 12) (h : ¬ (1 ≤ d ∧ d ≤ pLong y mo)) : d < 1 ∨ (kMon mo < d ∧ (d = 29 → mo = 2 → pLp y = 0)) := by
  by_cases h1 : d < 1
  · exact .inl h1
  · right
    have h2 : ¬ d ≤ pLong y mo := fun q => h ⟨by omega, q⟩
    rw [mon_long hmo] at h2
    constructor
    · omega
    · intro e1 e2
      by_cases e3 : pLp y = 0
      · exact e3
      · exact absurd (.inr ⟨e1, e2, e3⟩) h2
end
section
abbrev lawA (L a : Addr) (ccd : Value) : Around := callerA.deeper (lawE L a ccd)
theorem s_read (w : World) (mean : ExcName → Option Value) (mg mb : Str → Option Value) (a : Addr) (ccd : Value) (h₀ : Heap) (L : Addr) (u : Str → Option Value) (news : List (Addr × Obj)) (s : Shared) (Q : Flow → Shared → Prop) (E : Value → Shared → Prop)
    (B : Below callerA h₀ [] h₀) (X : (hd.heap_39 w.params).In h₀) (T : Top hd.view_39 (looseW hd.view_39 [Str.ofString "_law_edges"]) mean mg mb h₀)
    (mode : Int) (bv : Value) (t1 t2 t3 : Tok) (hm : mode = 0 ∨ mode = 1) (kind rest : Int) (t4 t5 : Tok) (hr : 0 ≤ rest ∧ rest < 1000000000000000)
    (F : Fr h₀ L s.heap (kstB u [(Str.ofString "mode", .int mode t1), (Str.ofString "base", .int (pBase mode) t2), (Str.ofString "top", .int (pTop mode) t3), (Str.ofString "before", bv), (Str.ofString "kind", .int kind t4), (Str.ofString "rest", .int rest t5)]))
    (N : News h₀ L s.heap news)
    (hcont : ∀ h tk m, Fr h₀ L h m → News h₀ L h news → Has m [(Str.ofString "mode", .int mode t1), (Str.ofString "base", .int (pBase mode) t2), (Str.ofString "top", .int (pTop mode) t3), (Str.ofString "before", bv)] → Q .cont { s with heap := h, toks := tk }) :
    wpAny (model PySem.Challenge.rw_fe0353_01.row.prog w) (callerA.deeper (lawE L a ccd)) (execs readBody (lawE L a ccd)) Q E s := by
  refine s_r0 w mean mg mb a ccd h₀ L u news s Q E B X T mode bv t1 t2 t3 hm kind rest t4 t5 hr F N ?_
  intro whole part t6 t7 u1 hh1 tk1 hp hq F1 N1
  obtain ⟨S, hS, hs1, hs2, hs3, hsec, hv1, hv2⟩ := part_reads hp hq
  refine s_r1 w mean mg mb a ccd h₀ L u1 news _ Q E B X T mode bv t1 t2 t3 hm whole part S t6 t7 hp hq hS hs1 hs2 hs3 hsec F1 N1 ?_ hcont
  intro D ds led u2 hh2 tk2 hdue hsub F2 N2
  refine s_r2 w mean mg mb a ccd h₀ L u2 news _ Q E B X T mode bv t1 t2 t3 hm whole part S t6 t7 hp hq D ds led hsub hdue hv1 hv2 F2 N2 ?_ hcont
  intro v tl led2 u3 hh3 tk3 hdue2 htold hsub2 F3 N3
  have hok := pRead_ok whole S mode
  cases hT : pRead whole S mode with
  | text x =>
    rw [hT] at hdue2 htold hok
    obtain ⟨_, t, rfl⟩ := htold.is
    exact s_r3t w mean mg mb a ccd h₀ L u3 news _ Q E B X T mode bv t1 t2 t3 hm D ds led2 hsub2 x t hok hdue2 (ReadsVia.str _ _) F3 N3 hcont
  | date y mo d h i sc =>
    rw [hT] at hdue2 htold hok
    have hvia := telv_via (h₀ := h₀) htold.is htold.sub
    obtain ⟨p, w1, w2, w3, w4, w5, w6, rfl, rfl⟩ := htold.is
    have hm6 := htold.sub _ (.head _)
    by_cases hy : 0 < y
    · have V := read_val hm hS hT hy
      have hc := V.hc
      have hci := count_in V.hmo.1 V.hmo.2 V.hd1 V.hd2
      have hfm := first_mono (show y + 1 ≤ 10000 by have := V.hy.2; omega)
      have f10 : pFirst 10000 = 3652059 := by decide
      have hpb : 693593 ≤ pBase mode := by rcases hm with rfl | rfl <;> decide
      have hlt : pCount y mo d - pBase mode < 2999000 := by omega
      exact s_r3d w mean mg mb a ccd h₀ L u3 news _ Q E B X T mode bv t1 t2 t3 hm D ds led2 hsub2 p y mo d h i sc w1 w2 w3 w4 w5 w6 hm6 V.hy V.hmo V.hd1 V.hd2 V.hc V.ha V.h1 V.i1 V.s1 (val_read hm V)
        (fun t => .inl ⟨_, t, rfl, told_fr ⟨by omega, hlt⟩ V.h1 V.i1 V.s1 (.inl hc.1)⟩) (by rw [days_count V.hy V.hmo V.hd1 V.hd2]; exact cmp_self (by omega)) hdue2 hvia F3 N3 hcont
    · exact s_r3z w mean mg mb a ccd h₀ L u3 news _ Q E B X T mode bv t1 t2 t3 hm D ds led2 hsub2 p y mo d h i sc w1 w2 w3 w4 w5 w6 hm6 (by omega) hdue2 hvia F3 N3 hcont
end
section
/-- what the loop keeps of the writing before -/
def BefOk (mode : Int) (led : List (Addr × Obj)) (bv : Value) : Prop := bv = .none ∨ ∃ (pr q : Addr) (y mo d h i sc : Int) (x : UInt64) (w1 w2 w3 w4 w5 w6 tx : Tok), bv = .ref pr ∧
  (q, ({ cls := .type "tuple", data := .seq #[.int y w1, .int mo w2, .int d w3, .int h w4, .int i w5, .int sc w6] } : Obj)) ∈ led ∧ (pr, ({ cls := .type "tuple", data := .seq #[.ref q, .float x tx] } : Obj)) ∈ led ∧ WOk mode y mo d h i sc x
theorem BefOk.more {mode : Int} {led led' : List (Addr × Obj)} {bv : Value} (h : BefOk mode led bv) (hs : ∀ p ∈ led, p ∈ led') : BefOk mode led' bv := by
  rcases h with h | ⟨pr, q, y, mo, d, hh, i, sc, x, w1, w2, w3, w4, w5, w6, tx, e, h1, h2, h3⟩
  · exact .inl h
  · exact .inr ⟨pr, q, y, mo, d, hh, i, sc, x, w1, w2, w3, w4, w5, w6, tx, e, hs _ h1, hs _ h2, h3⟩
section
variable (w : World) (mean : ExcName → Option Value) (mg mb : Str → Option Value) (a : Addr) (ccd : Value) (h₀ : Heap) (L : Addr) (u : Str → Option Value) (news : List (Addr × Obj)) (s : Shared) (Q : Flow → Shared → Prop) (E : Value → Shared → Prop)
    (B : Below callerA h₀ [] h₀) (X : (hd.heap_39 w.params).In h₀) (T : Top hd.view_39 (looseW hd.view_39 [Str.ofString "_law_edges"]) mean mg mb h₀)
    (mode : Int) (bv : Value) (t1 t2 t3 : Tok) (hm : mode = 0 ∨ mode = 1)
include mean mg mb B X T hm
/-- behind the writing: the order with the one before, and the end -/
theorem s_order (y mo d h i sc : Int) (dp cp : Addr) (x : UInt64) (v1 v2 v3 v4 v5 v6 t4 : Tok) (led : List (Addr × Obj)) (hsub : ∀ p ∈ news, p ∈ led)
    (hdp : (dp, ({ cls := .type "tuple", data := .seq #[.int y v1, .int mo v2, .int d v3] } : Obj)) ∈ led) (hcp : (cp, ({ cls := .type "tuple", data := .seq #[.int h v4, .int i v5, .int sc v6] } : Obj)) ∈ led)
    (hbef : BefOk mode news bv) (W : WOk mode y mo d h i sc x)
    (F : Fr h₀ L s.heap (kstB u [(Str.ofString "mode", .int mode t1), (Str.ofString "base", .int (pBase mode) t2), (Str.ofString "top", .int (pTop mode) t3), (Str.ofString "before", bv), (Str.ofString "date", .ref dp), (Str.ofString "clock", .ref cp), (Str.ofString "told", .float x t4)]))
    (N : News h₀ L s.heap led)
    (hnext : ∀ hh tk m pr q w1 w2 w3 w4 w5 w6 tx led, Fr h₀ L hh m → News h₀ L hh led → Has m [(Str.ofString "mode", .int mode t1), (Str.ofString "base", .int (pBase mode) t2), (Str.ofString "top", .int (pTop mode) t3), (Str.ofString "before", .ref pr)] →
      (q, ({ cls := .type "tuple", data := .seq #[.int y w1, .int mo w2, .int d w3, .int h w4, .int i w5, .int sc w6] } : Obj)) ∈ led → (pr, ({ cls := .type "tuple", data := .seq #[.ref q, .float x tx] } : Obj)) ∈ led → (∀ p ∈ news, p ∈ led) → Q .next { s with heap := hh, toks := tk }) :
    wpAny (model PySem.Challenge.rw_fe0353_01.row.prog w) (callerA.deeper (lawE L a ccd)) (execs (writeBody.drop 16) (lawE L a ccd)) Q E s := by
  rcases hbef with rfl | ⟨pr, q, y0, mo0, d0, h0, i0, sc0, x0, w1, w2, w3, w4, w5, w6, tx, rfl, b1, b2, b3⟩
  · exact s_w3n w mean mg mb a ccd h₀ L u news s Q E B X T mode t1 t2 t3 hm y mo d h i sc dp cp x v1 v2 v3 v4 v5 v6 t4 led hsub hdp hcp F N hnext
  · exact s_w3s w mean mg mb a ccd h₀ L u news s Q E B X T mode t1 t2 t3 hm y mo d h i sc dp cp x v1 v2 v3 v4 v5 v6 t4 led hsub hdp hcp pr q y0 mo0 d0 h0 i0 sc0 x0 w1 w2 w3 w4 w5 w6 tx (hsub _ b1) (hsub _ b2) (ord_ok b3 W) F N hnext
theorem s_write (hbef : BefOk mode news bv) (kind rest : Int) (t4 t5 : Tok) (hr : 0 ≤ rest ∧ rest < 1000000000000000)
    (F : Fr h₀ L s.heap (kstB u [(Str.ofString "mode", .int mode t1), (Str.ofString "base", .int (pBase mode) t2), (Str.ofString "top", .int (pTop mode) t3), (Str.ofString "before", bv), (Str.ofString "kind", .int kind t4), (Str.ofString "rest", .int rest t5)]))
    (N : News h₀ L s.heap news)
    (hcont : ∀ h tk m, Fr h₀ L h m → News h₀ L h news → Has m [(Str.ofString "mode", .int mode t1), (Str.ofString "base", .int (pBase mode) t2), (Str.ofString "top", .int (pTop mode) t3), (Str.ofString "before", bv)] → Q .cont { s with heap := h, toks := tk })
    (hnext : ∀ y mo d h i sc x hh tk m pr q w1 w2 w3 w4 w5 w6 tx led, WOk mode y mo d h i sc x → Fr h₀ L hh m → News h₀ L hh led → Has m [(Str.ofString "mode", .int mode t1), (Str.ofString "base", .int (pBase mode) t2), (Str.ofString "top", .int (pTop mode) t3), (Str.ofString "before", .ref pr)] →
      (q, ({ cls := .type "tuple", data := .seq #[.int y w1, .int mo w2, .int d w3, .int h w4, .int i w5, .int sc w6] } : Obj)) ∈ led → (pr, ({ cls := .type "tuple", data := .seq #[.ref q, .float x tx] } : Obj)) ∈ led → (∀ p ∈ news, p ∈ led) → Q .next { s with heap := hh, toks := tk }) :
    wpAny (model PySem.Challenge.rw_fe0353_01.row.prog w) (callerA.deeper (lawE L a ccd)) (execs writeBody (lawE L a ccd)) Q E s := by
  refine s_w0 w mean mg mb a ccd h₀ L u news s Q E B X T mode bv t1 t2 t3 hm kind rest t4 t5 hr F N ?_
  intro y mo d h i sc u1 u2 u3 u4 u5 u6 uu hh tk six F1 N1
  obtain ⟨b1, b2, b3, b4, b5, b6, k⟩ := six
  by_cases hz : y = 0 ∧ mo = 0 ∧ d = 0
  · obtain ⟨rfl, rfl, rfl⟩ := hz
    obtain ⟨h1, i1, s1⟩ : (0 ≤ h ∧ h < 24) ∧ (0 ≤ i ∧ i < 60) ∧ 0 ≤ sc ∧ sc < 60 := by
      rcases k with k | k | k
      · exact k.2.2.2
      · omega
      · omega
    have e0 : Float64.add 0 (tClock h i sc) = Float64.add (Float64.ofInt 0) (tClock h i sc) := by rw [← c0]
    have W : WOk mode 0 0 0 h i sc (Float64.add 0 (tClock h i sc)) := ⟨h1, i1, s1, 0, e0, by omega, .inl ⟨rfl, rfl, rfl, rfl⟩⟩
    have kb := clk_back h1 i1 s1
    obtain ⟨l1, l2⟩ := told_in (x := Float64.add 0 (tClock h i sc)) (c := 0) (by omega) h1 i1 s1 e0
    have hz2 : ∀ t, VR (.float (Float64.add 0 (tClock h i sc)) t) 0 (3600 * h + 60 * i + sc) := by
      intro t
      rw [e0]
      by_cases hS : 0 < 3600 * h + 60 * i + sc
      · exact .inl ⟨_, t, rfl, told_fr (by omega) h1 i1 s1 (.inr hS)⟩
      · have e1 : 3600 * h + 60 * i + sc = 0 := by omega
        obtain ⟨c1, c2, c3, c4, c5⟩ := clock_near h1 i1 s1
        obtain ⟨j1, j2⟩ := f_int 0 (by decide)
        obtain ⟨a1, a2⟩ := f_add_whole (n := 0) j1 c1 (by decide) (by rw [j2, c3 e1]; simp)
        refine .inr (.inl ⟨_, t, rfl, ?_, rfl, e1⟩)
        rw [cmp_of a1 fn_0.1, fn_0.2, ord_eq, a2]
        simp
    have hz3 := clock_vr h1 i1 s1
    refine s_w1z w mean mg mb a ccd h₀ L uu news _ Q E B X T mode bv t1 t2 t3 hm 0 0 0 h i sc u1 u2 u3 u4 u5 u6 h1 i1 s1 F1 N1 ?_
    intro dp cp v1 v2 v3 v4 v5 v6 tc tw led uu2 hh2 tk2 hdp hcp hsub F2 N2
    refine s_w2o w mean mg mb a ccd h₀ L uu2 news _ Q E B X T mode bv t1 t2 t3 hm 0 0 0 h i sc dp cp v1 v2 v3 v4 v5 v6 tc tw led hsub hdp hcp (Float64.add 0 (tClock h i sc)) 0 (3600 * h + 60 * i + sc) h1 i1 s1
      (fun p w1 w2 w3 w4 w5 w6 t => c_wz p h i sc mode w1 w2 w3 w4 w5 w6 t hm h1 i1 s1) (fun p w1 w2 w3 t => by rw [← c0]; exact c_fromd0 p mode w1 w2 w3 t hm) hz2 hz3 (zero_read hm h1 i1 s1) (zero_read hm h1 i1 s1) (cmp_self (by decide)) l1 l2 F2 N2 ?_
    intro t6 led2 uu3 hh3 tk3 hdp2 hcp2 hsub2 F3 N3
    exact s_order w mean mg mb a ccd h₀ L uu3 news _ Q E B X T mode bv t1 t2 t3 hm 0 0 0 h i sc dp cp _ v1 v2 v3 v4 v5 v6 t6 led2 hsub2 hdp2 hcp2 hbef W F3 N3 (fun hh tk m pr q w1 w2 w3 w4 w5 w6 tx led => hnext 0 0 0 h i sc _ hh tk m pr q w1 w2 w3 w4 w5 w6 tx led W)
  · have hnz : y ≠ 0 ∨ 1 ≤ mo := by
      rcases k with k | k | k
      · exact absurd ⟨k.1, k.2.1, k.2.2.1⟩ hz
      · exact .inr k.2.1
      · exact .inl (by omega)
    have hpb : 693593 ≤ pBase mode := by rcases hm with rfl | rfl <;> decide
    have bad : ∀ (hW : ∀ p w1 w2 w3 w4 w5 w6 t, ConG 6 187 (HasT6 p y mo d h i sc w1 w2 w3 w4 w5 w6) [.ref p, .int mode t] (TelV (.text (Str.ofString "tuple")))) (hc : pDays y mo d - pBase mode ≤ 0),
        wpAny (model PySem.Challenge.rw_fe0353_01.row.prog w) (callerA.deeper (lawE L a ccd)) (execs (writeBody.drop 6) (lawE L a ccd)) Q E { s with heap := hh, toks := tk } := by
      intro hW hc
      refine s_w1e1 w mean mg mb a ccd h₀ L uu news _ Q E B X T mode bv t1 t2 t3 hm y mo d h i sc u1 u2 u3 u4 u5 u6 hnz hc F1 N1 ?_
      intro dp cp v1 v2 v3 v4 v5 v6 tc tw led uu2 hh2 tk2 hdp hcp hsub F2 N2
      exact s_w2t w mean mg mb a ccd h₀ L uu2 news _ Q E B X T mode bv t1 t2 t3 hm y mo d h i sc dp cp v1 v2 v3 v4 v5 v6 tc tw led hsub hdp hcp _ hW F2 N2 hcont
    by_cases hy : 1900 ≤ y ∧ y ≤ 9999
    · by_cases hmo : 1 ≤ mo ∧ mo ≤ 12
      · by_cases hd : 1 ≤ d ∧ d ≤ pLong y mo
        · have ed := days_count hy hmo hd.1 hd.2
          obtain ⟨q1, q2⟩ := k_count hm hy hmo hd.1 hd.2
          have ml := (mon_long hmo).mp hd.2
          have hci := count_in hmo.1 hmo.2 hd.1 hd.2
          have hfm := first_mono (show y + 1 ≤ 10000 by omega)
          have f10 : pFirst 10000 = 3652059 := by decide
          by_cases c0 : pCount y mo d - pBase mode ≤ 0
          · exact bad (fun p w1 w2 w3 w4 w5 w6 t => c_wn' p y mo d h i sc mode _ w1 w2 w3 w4 w5 w6 t hm b1 b2 b3 b4 b5 b6 hy hmo hd.1 ml q1 q2 c0) (by rw [ed]; exact c0)
          · by_cases ca : pCount y mo d - pBase mode < 61 ∧ mode = 0
            · refine s_w1e2 w mean mg mb a ccd h₀ L uu news _ Q E B X T mode bv t1 t2 t3 hm y mo d h i sc u1 u2 u3 u4 u5 u6 hnz (by rw [ed]; omega) (by rw [ed]; exact ca.1) ca.2 F1 N1 ?_
              intro dp cp v1 v2 v3 v4 v5 v6 tc tw led uu2 hh2 tk2 hdp hcp hsub F2 N2
              exact s_w2a w mean mg mb a ccd h₀ L uu2 news _ Q E B X T mode bv t1 t2 t3 hm y mo d h i sc dp cp v1 v2 v3 v4 v5 v6 tc tw led hsub hdp hcp _
                (fun p w1 w2 w3 w4 w5 w6 t => c_wa' p y mo d h i sc mode _ w1 w2 w3 w4 w5 w6 t hm b1 b2 b3 b4 b5 b6 hy hmo hd.1 ml q1 q2 ⟨by omega, ca.1⟩ ca.2) F2 N2 hcont
            · have ha : pCount y mo d - pBase mode < 61 → mode = 1 := by
                intro q
                rcases hm with e | e
                · exact absurd ⟨q, e⟩ ca
                · exact e
              have hc : 0 < pCount y mo d - pBase mode ∧ pCount y mo d - pBase mode < 3000000 := by omega
              have hc9 : 0 ≤ pCount y mo d - pBase mode ∧ pCount y mo d - pBase mode < 2999000 := by omega
              by_cases cl : 0 ≤ h ∧ h < 24 ∧ 0 ≤ i ∧ i < 60 ∧ 0 ≤ sc ∧ sc < 60
              · have h1 : 0 ≤ h ∧ h < 24 := ⟨cl.1, cl.2.1⟩
                have i1 : 0 ≤ i ∧ i < 60 := ⟨cl.2.2.1, cl.2.2.2.1⟩
                have s1 : 0 ≤ sc ∧ sc < 60 := cl.2.2.2.2
                have V : Val mode y mo d h i sc := ⟨hy, hmo, hd.1, hd.2, hc, ha, h1, i1, s1⟩
                have W : WOk mode y mo d h i sc (Float64.add (Float64.ofInt (pCount y mo d - pBase mode)) (tClock h i sc)) := ⟨h1, i1, s1, _, rfl, hc9, .inr ⟨hy, hmo, hd.1, hd.2, rfl, hc.1⟩⟩
                obtain ⟨l1, l2⟩ := told_in (c := pCount y mo d - pBase mode) hc9 h1 i1 s1 rfl
                refine s_w1v w mean mg mb a ccd h₀ L uu news _ Q E B X T mode bv t1 t2 t3 hm y mo d h i sc u1 u2 u3 u4 u5 u6 hnz (by rw [ed]; exact hc.1) (by rw [ed]; exact ha) h1 i1 s1 F1 N1 ?_
                intro dp cp v1 v2 v3 v4 v5 v6 tc tw led uu2 hh2 tk2 hdp hcp hsub F2 N2
                rw [ed] at F2
                refine s_w2o w mean mg mb a ccd h₀ L uu2 news _ Q E B X T mode bv t1 t2 t3 hm y mo d h i sc dp cp v1 v2 v3 v4 v5 v6 tc tw led hsub hdp hcp _ (pCount y mo d - pBase mode) (3600 * h + 60 * i + sc) h1 i1 s1
                  (fun p w1 w2 w3 w4 w5 w6 t => c_wr p y mo d h i sc mode w1 w2 w3 w4 w5 w6 t hm hy hmo hd.1 hd.2 hc ha h1 i1 s1) (fun p w1 w2 w3 t => c_fromd p y mo d mode w1 w2 w3 t hm hy hmo hd.1 hd.2 hc ha)
                  (fun t => .inl ⟨_, t, rfl, told_fr hc9 h1 i1 s1 (.inl hc.1)⟩) (clock_vr h1 i1 s1) (val_read hm V) (zero_read hm h1 i1 s1) (cmp_self (by omega)) l1 l2 F2 N2 ?_
                intro t6 led2 uu3 hh3 tk3 hdp2 hcp2 hsub2 F3 N3
                exact s_order w mean mg mb a ccd h₀ L uu3 news _ Q E B X T mode bv t1 t2 t3 hm y mo d h i sc dp cp _ v1 v2 v3 v4 v5 v6 t6 led2 hsub2 hdp2 hcp2 hbef W F3 N3 (fun hh tk m pr q w1 w2 w3 w4 w5 w6 tx led => hnext y mo d h i sc _ hh tk m pr q w1 w2 w3 w4 w5 w6 tx led W)
              · refine s_w1e3 w mean mg mb a ccd h₀ L uu news _ Q E B X T mode bv t1 t2 t3 hm y mo d h i sc u1 u2 u3 u4 u5 u6 hnz (by rw [ed]; exact hc.1) (by rw [ed]; exact ha) cl F1 N1 ?_
                intro dp cp v1 v2 v3 v4 v5 v6 tc tw led uu2 hh2 tk2 hdp hcp hsub F2 N2
                exact s_w2t w mean mg mb a ccd h₀ L uu2 news _ Q E B X T mode bv t1 t2 t3 hm y mo d h i sc dp cp v1 v2 v3 v4 v5 v6 tc tw led hsub hdp hcp _
                  (fun p w1 w2 w3 w4 w5 w6 t => c_wc p y mo d h i sc mode w1 w2 w3 w4 w5 w6 t hm b1 b2 b3 b4 b5 b6 hy hmo hd.1 hd.2 hc ha cl) F2 N2 hcont
        · have ed : pDays y mo d = -1 := (pDays_no (fun q => hd ⟨q.2.2.2.2.1, q.2.2.2.2.2⟩)).symm
          exact bad (fun p w1 w2 w3 w4 w5 w6 t => c_wd' p y mo d h i sc mode w1 w2 w3 w4 w5 w6 t hm b1 b2 b3 b4 b5 b6 hy hmo (bad_day hmo hd)) (by rw [ed]; omega)
      · have ed : pDays y mo d = -1 := (pDays_no (fun q => hmo ⟨q.2.2.1, q.2.2.2.1⟩)).symm
        exact bad (fun p w1 w2 w3 w4 w5 w6 t => c_wm p y mo d h i sc mode w1 w2 w3 w4 w5 w6 t hm b1 b2 b3 b4 b5 b6 hy (by omega)) (by rw [ed]; omega)
    · have ed : pDays y mo d = -1 := (pDays_no (fun q => hy ⟨q.1, q.2.1⟩)).symm
      have h1 : 1 ≤ mo := by
        rcases k with k | k | k
        · exact absurd ⟨k.1, k.2.1, k.2.2.1⟩ hz
        · exact k.2.1
        · exact absurd k hy
      exact bad (fun p w1 w2 w3 w4 w5 w6 t => c_wy p y mo d h i sc mode w1 w2 w3 w4 w5 w6 t hm b1 b2 b3 b4 b5 b6 h1 (by omega)) (by rw [ed]; omega)
end
end
/-- the walk begins as in a file of its own -/
theorem freshS14 : True := by w_top off; exact True.intro
section
set_option maxRecDepth 100000 in
set_option maxHeartbeats 8000000 in
theorem s_kr (w : World) (mean : ExcName → Option Value) (mg mb : Str → Option Value) (a : Addr) (ccd : Value) (h₀ : Heap) (L : Addr) (u : Str → Option Value) (news : List (Addr × Obj)) (s : Shared) (Q : Flow → Shared → Prop) (E : Value → Shared → Prop)
    (B : Below callerA h₀ [] h₀) (X : (hd.heap_39 w.params).In h₀) (T : Top hd.view_39 (looseW hd.view_39 [Str.ofString "_law_edges"]) mean mg mb h₀)
    (mode : Int) (bv : Value) (t1 t2 t3 : Tok) (hm : mode = 0 ∨ mode = 1) (n : Int) (tn : Tok) (hn : 0 ≤ n ∧ n < 1000000000000000)
    (F : Fr h₀ L s.heap (kstB u [(Str.ofString "number", .int n tn), (Str.ofString "mode", .int mode t1), (Str.ofString "base", .int (pBase mode) t2), (Str.ofString "top", .int (pTop mode) t3), (Str.ofString "before", bv)])) (N : News h₀ L s.heap news)
    (next : ∀ kind rest t4 t5 u h tk, (0 ≤ rest ∧ rest < 1000000000000000) → Fr h₀ L h (kstB u [(Str.ofString "mode", .int mode t1), (Str.ofString "base", .int (pBase mode) t2), (Str.ofString "top", .int (pTop mode) t3), (Str.ofString "before", bv), (Str.ofString "kind", .int kind t4), (Str.ofString "rest", .int rest t5)]) → News h₀ L h news → wpAny (model PySem.Challenge.rw_fe0353_01.row.prog w) (callerA.deeper (lawE L a ccd)) (execs (forBody.drop 2) (lawE L a ccd)) Q E { s with heap := h, toks := tk }) :
    wpAny (model PySem.Challenge.rw_fe0353_01.row.prog w) (callerA.deeper (lawE L a ccd)) (execs forBody (lawE L a ccd)) Q E s := by
  unfold lawE
  conv in (occs := *) lawS => all_goals whnf
  dsimp only
  revert X; k_fill; intro X
  dsimp only [kstB] at F
  refine my_seg (σ := Int × Int × Tok × Tok) (h₀ := h₀) (L := L) 2 (fun c => [(Str.ofString "mode", .int mode t1), (Str.ofString "base", .int (pBase mode) t2), (Str.ofString "top", .int (pTop mode) t3), (Str.ofString "before", bv), (Str.ofString "kind", .int c.1 c.2.2.1), (Str.ofString "rest", .int c.2.1 c.2.2.2)]) (fun c => news) (fun c => 0 ≤ c.2.1 ∧ c.2.1 < 1000000000000000) ?_ ?_
  rotate_left
  · rintro ⟨c1, c2, c3, c4⟩ u9 h9 tk9 hP F9 N9
    exact next _ _ _ _ u9 h9 tk9 hP F9 N9
  conv in (forBody) => whnf
  simp only [List.take_succ_cons, List.take_zero]
  k_steps
  all_goals (refine cut_end (_, _, _, _) (by k_asm) (by assumption) (by (try dsimp only); walk_at "mine has") ?_ rfl rfl rfl; dsimp only)
  all_goals (rw [Int.fdiv_eq_ediv_of_nonneg _ (by decide)]; omega)
set_option maxRecDepth 100000 in
set_option maxHeartbeats 8000000 in
theorem s_ift (w : World) (mean : ExcName → Option Value) (mg mb : Str → Option Value) (a : Addr) (ccd : Value) (h₀ : Heap) (L : Addr) (u : Str → Option Value) (news : List (Addr × Obj)) (s : Shared) (Q : Flow → Shared → Prop) (E : Value → Shared → Prop)
    (B : Below callerA h₀ [] h₀) (X : (hd.heap_39 w.params).In h₀) (T : Top hd.view_39 (looseW hd.view_39 [Str.ofString "_law_edges"]) mean mg mb h₀)
    (mode : Int) (bv : Value) (t1 t2 t3 : Tok) (hm : mode = 0 ∨ mode = 1) (kind rest : Int) (t4 t5 : Tok) (hk : kind < 2)
    (F : Fr h₀ L s.heap (kstB u [(Str.ofString "mode", .int mode t1), (Str.ofString "base", .int (pBase mode) t2), (Str.ofString "top", .int (pTop mode) t3), (Str.ofString "before", bv), (Str.ofString "kind", .int kind t4), (Str.ofString "rest", .int rest t5)])) (N : News h₀ L s.heap news)
    (next : ∀ u h tk, Fr h₀ L h (kstB u [(Str.ofString "mode", .int mode t1), (Str.ofString "base", .int (pBase mode) t2), (Str.ofString "top", .int (pTop mode) t3), (Str.ofString "before", bv), (Str.ofString "kind", .int kind t4), (Str.ofString "rest", .int rest t5)]) → News h₀ L h news → wpAny (model PySem.Challenge.rw_fe0353_01.row.prog w) (callerA.deeper (lawE L a ccd)) (execs readBody (lawE L a ccd)) (fun f s' => match f with | .next => wpAny (model PySem.Challenge.rw_fe0353_01.row.prog w) (callerA.deeper (lawE L a ccd)) (execs writeBody (lawE L a ccd)) Q E s' | f => Q f s') E { s with heap := h, toks := tk }) :
    wpAny (model PySem.Challenge.rw_fe0353_01.row.prog w) (callerA.deeper (lawE L a ccd)) (execs (forBody.drop 2) (lawE L a ccd)) Q E s := by
  unfold lawE
  conv in (occs := *) lawS => all_goals whnf
  dsimp only
  revert X; k_fill; intro X
  have em : kstB u [(Str.ofString "mode", .int mode t1), (Str.ofString "base", .int (pBase mode) t2), (Str.ofString "top", .int (pTop mode) t3), (Str.ofString "before", bv), (Str.ofString "kind", .int kind t4), (Str.ofString "rest", .int rest t5)] = kstB u [(Str.ofString "mode", .int mode t1), (Str.ofString "base", .int (pBase mode) t2), (Str.ofString "top", .int (pTop mode) t3), (Str.ofString "before", bv), (Str.ofString "kind", .int kind t4), (Str.ofString "rest", .int rest t5)] := rfl
  revert F
  generalize hmm : kstB u [(Str.ofString "mode", .int mode t1), (Str.ofString "base", .int (pBase mode) t2), (Str.ofString "top", .int (pTop mode) t3), (Str.ofString "before", bv), (Str.ofString "kind", .int kind t4), (Str.ofString "rest", .int rest t5)] = mm
  intro F
  have F0 := F
  rw [← hmm] at F0
  dsimp only [kstB] at F0
  conv in (forBody) => whnf
  simp only [List.drop_succ_cons, List.drop_zero]
  refine wpAny_execs_cons ?_
  refine if_seg (h₀ := h₀) (L := L) (m := mm) (led := news) true ?_ ?_
  · clear F
    revert F0
    rw [show mm = _ from hmm.symm]
    dsimp only [kstB]
    intro F
    k_steps
    all_goals (first | rw [decide_eq_true hk] | rw [decide_eq_false hk])
    all_goals exact if_end (by k_asm) (by assumption) rfl rfl rfl
  · intro h' tk F9 N9
    rw [← hmm] at F9
    exact next u h' tk F9 N9
set_option maxRecDepth 100000 in
set_option maxHeartbeats 8000000 in
theorem s_iff (w : World) (mean : ExcName → Option Value) (mg mb : Str → Option Value) (a : Addr) (ccd : Value) (h₀ : Heap) (L : Addr) (u : Str → Option Value) (news : List (Addr × Obj)) (s : Shared) (Q : Flow → Shared → Prop) (E : Value → Shared → Prop)
    (B : Below callerA h₀ [] h₀) (X : (hd.heap_39 w.params).In h₀) (T : Top hd.view_39 (looseW hd.view_39 [Str.ofString "_law_edges"]) mean mg mb h₀)
    (mode : Int) (bv : Value) (t1 t2 t3 : Tok) (hm : mode = 0 ∨ mode = 1) (kind rest : Int) (t4 t5 : Tok) (hk : ¬ kind < 2)
    (F : Fr h₀ L s.heap (kstB u [(Str.ofString "mode", .int mode t1), (Str.ofString "base", .int (pBase mode) t2), (Str.ofString "top", .int (pTop mode) t3), (Str.ofString "before", bv), (Str.ofString "kind", .int kind t4), (Str.ofString "rest", .int rest t5)])) (N : News h₀ L s.heap news)
    (next : ∀ u h tk, Fr h₀ L h (kstB u [(Str.ofString "mode", .int mode t1), (Str.ofString "base", .int (pBase mode) t2), (Str.ofString "top", .int (pTop mode) t3), (Str.ofString "before", bv), (Str.ofString "kind", .int kind t4), (Str.ofString "rest", .int rest t5)]) → News h₀ L h news → wpAny (model PySem.Challenge.rw_fe0353_01.row.prog w) (callerA.deeper (lawE L a ccd)) (execs [] (lawE L a ccd)) (fun f s' => match f with | .next => wpAny (model PySem.Challenge.rw_fe0353_01.row.prog w) (callerA.deeper (lawE L a ccd)) (execs writeBody (lawE L a ccd)) Q E s' | f => Q f s') E { s with heap := h, toks := tk }) :
    wpAny (model PySem.Challenge.rw_fe0353_01.row.prog w) (callerA.deeper (lawE L a ccd)) (execs (forBody.drop 2) (lawE L a ccd)) Q E s := by
  unfold lawE
  conv in (occs := *) lawS => all_goals whnf
  dsimp only
  revert X; k_fill; intro X
  have em : kstB u [(Str.ofString "mode", .int mode t1), (Str.ofString "base", .int (pBase mode) t2), (Str.ofString "top", .int (pTop mode) t3), (Str.ofString "before", bv), (Str.ofString "kind", .int kind t4), (Str.ofString "rest", .int rest t5)] = kstB u [(Str.ofString "mode", .int mode t1), (Str.ofString "base", .int (pBase mode) t2), (Str.ofString "top", .int (pTop mode) t3), (Str.ofString "before", bv), (Str.ofString "kind", .int kind t4), (Str.ofString "rest", .int rest t5)] := rfl
  revert F
  generalize hmm : kstB u [(Str.ofString "mode", .int mode t1), (Str.ofString "base", .int (pBase mode) t2), (Str.ofString "top", .int (pTop mode) t3), (Str.ofString "before", bv), (Str.ofString "kind", .int kind t4), (Str.ofString "rest", .int rest t5)] = mm
  intro F
  have F0 := F
  rw [← hmm] at F0
  dsimp only [kstB] at F0
  conv in (forBody) => whnf
  simp only [List.drop_succ_cons, List.drop_zero]
  refine wpAny_execs_cons ?_
  refine if_seg (h₀ := h₀) (L := L) (m := mm) (led := news) false ?_ ?_
  · clear F
    revert F0
    rw [show mm = _ from hmm.symm]
    dsimp only [kstB]
    intro F
    k_steps
    all_goals (first | rw [decide_eq_true hk] | rw [decide_eq_false hk])
    all_goals exact if_end (by k_asm) (by assumption) rfl rfl rfl
  · intro h' tk F9 N9
    rw [← hmm] at F9
    exact next u h' tk F9 N9
end
section
/-- the state of the loop: what `before` holds, and its objects -/
def bPs (mode : Int) (t1 t2 t3 : Tok) (c : Value × List (Addr × Obj)) : List (Str × Value) := [(Str.ofString "mode", .int mode t1), (Str.ofString "base", .int (pBase mode) t2), (Str.ofString "top", .int (pTop mode) t3), (Str.ofString "before", c.1)]
def bP (mode : Int) (c : Value × List (Addr × Obj)) : Prop := BefOk mode c.2 c.1 ∧ ∀ p ∈ c.2, p.2.cls = .type "tuple"
theorem s_turn (w : World) (mean : ExcName → Option Value) (mg mb : Str → Option Value) (a : Addr) (ccd : Value) (h₀ : Heap) (L : Addr) (u : Str → Option Value) (s : Shared) (Q : Flow → Shared → Prop) (E : Value → Shared → Prop)
    (B : Below callerA h₀ [] h₀) (X : (hd.heap_39 w.params).In h₀) (T : Top hd.view_39 (looseW hd.view_39 [Str.ofString "_law_edges"]) mean mg mb h₀)
    (mode : Int) (t1 t2 t3 : Tok) (hm : mode = 0 ∨ mode = 1) (n : Int) (tn : Tok) (hn : 0 ≤ n ∧ n < 1000000000000000) (c : Value × List (Addr × Obj)) (hc : bP mode c) (own : List (Addr × Obj))
    (F : Fr h₀ L s.heap (fun y => if y = Str.ofString "number" then some (.int n tn) else kstB u (bPs mode t1 t2 t3 c) y)) (N : News h₀ L s.heap (c.2 ++ own)) :
    wpAny (model PySem.Challenge.rw_fe0353_01.row.prog w) (callerA.deeper (lawE L a ccd)) (execs forBody (lawE L a ccd)) (ForPost h₀ L (bPs mode t1 t2 t3) (fun c => c.2) (bP mode) own s Q) E s := by
  obtain ⟨bv, bled⟩ := c
  obtain ⟨hb, ht⟩ := hc
  have hb' : BefOk mode (bled ++ own) bv := hb.more (fun p hp => List.mem_append_left _ hp)
  refine s_kr w mean mg mb a ccd h₀ L u (bled ++ own) s _ E B X T mode bv t1 t2 t3 hm n tn hn F N ?_
  intro kind rest t4 t5 u1 h1 tk1 hr F1 N1
  have hcont : ∀ (h : Heap) (tk : Nat) (m : Str → Option Value), Fr h₀ L h m → News h₀ L h (bled ++ own) → Has m [(Str.ofString "mode", .int mode t1), (Str.ofString "base", .int (pBase mode) t2), (Str.ofString "top", .int (pTop mode) t3), (Str.ofString "before", bv)] →
      ForPost h₀ L (bPs mode t1 t2 t3) (fun c => c.2) (bP mode) own s Q .cont { s with heap := h, toks := tk } := fun h tk m F N H => ⟨(bv, bled), h, tk, m, rfl, F, N, H, hb, ht⟩
  by_cases hk : kind < 2
  · refine s_ift w mean mg mb a ccd h₀ L u1 (bled ++ own) _ _ E B X T mode bv t1 t2 t3 hm kind rest t4 t5 hk F1 N1 ?_
    intro u2 h2 tk2 F2 N2
    exact s_read w mean mg mb a ccd h₀ L u2 (bled ++ own) _ _ E B X T mode bv t1 t2 t3 hm kind rest t4 t5 hr F2 N2 hcont
  · refine s_iff w mean mg mb a ccd h₀ L u1 (bled ++ own) _ _ E B X T mode bv t1 t2 t3 hm kind rest t4 t5 hk F1 N1 ?_
    intro u2 h2 tk2 F2 N2
    refine wpAny_execs_nil ?_
    refine s_write w mean mg mb a ccd h₀ L u2 (bled ++ own) _ _ E B X T mode bv t1 t2 t3 hm hb' kind rest t4 t5 hr F2 N2 hcont ?_
    intro y mo d h i sc x hh tk m pr q w1 w2 w3 w4 w5 w6 tx led W F3 N3 H3 hq hpr hsub
    refine ⟨(.ref pr, [(q, { cls := .type "tuple", data := .seq #[.int y w1, .int mo w2, .int d w3, .int h w4, .int i w5, .int sc w6] }), (pr, { cls := .type "tuple", data := .seq #[.ref q, .float x tx] })]), hh, tk, m, rfl, F3, ?_, H3, ?_, ?_⟩
    · intro p hp
      rcases List.mem_append.mp hp with hp | hp
      · rcases List.mem_cons.mp hp with rfl | hp
        · exact N3 _ hq
        · rw [List.mem_singleton.mp hp]
          exact N3 _ hpr
      · exact N3 p (hsub p (List.mem_append_right _ hp))
    · exact .inr ⟨pr, q, y, mo, d, h, i, sc, x, w1, w2, w3, w4, w5, w6, tx, rfl, .head _, .tail _ (.head _), W⟩
    · intro p hp
      rcases List.mem_cons.mp hp with rfl | hp
      · rfl
      · rw [List.mem_singleton.mp hp]
end
/-- the walk begins as in a file of its own -/
theorem freshS11 : True := by w_top off; exact True.intro
section
local macro_rules | `(tactic| walk_at "call ref") => `(tactic| (k_here; k_dflt (refine' con_use (c_days _ _ _ _ _ _) ?k1 ?k2 ?k3 ?k4 ?k5 ?kK ?kn ?kd ?ku ?_; (case k1 => k_asm); (case k2 => k_asm); (case k3 => k_asm); (case k4 => k_asm); (case k5 => k_asm); (case kK => first | assumption | exact rfl); (case kd => ktr_room); (case ku => ktr_units); (case kn => first | trivial | k_mem | walk_at "mine mem");  intro v9 tl9 h9 tk9 r9 F9 N9; obtain ⟨e9, t9, f9⟩ := r9; subst e9 f9; (try dsimp only [List.nil_append, List.cons_append] at N9); (try dsimp only); (try k_fold); (try k_sweep))))
local macro_rules | `(tactic| walk_at "call ref") => `(tactic| (k_here; k_dflt (refine' conL_use (c_read_m _ _ _ _ ?kp) ?k1 ?k2 ?k3 ?k4 ?k5 ?kK ?kn ?kd ?ku ?_; (case k1 => k_asm); (case k2 => k_asm); (case k3 => k_asm); (case k4 => k_asm); (case k5 => k_asm); (case kK => first | assumption | exact rfl); (case kd => ktr_room); (case ku => ktr_units); (case kn => first | trivial | k_mem | walk_at "mine mem"); (case kp => first | assumption | exact other_ok _ | decide); intro v9 tl9 h9 tk9 r9 F9 N9; obtain ⟨e9, t9, f9⟩ := r9; subst e9 f9; (try dsimp only [List.nil_append, List.cons_append] at N9); (try dsimp only); (try k_fold); (try k_sweep))))
local macro_rules | `(tactic| walk_at "call ref") => `(tactic| (k_here; k_dflt (refine' conG_use (c_wmode _ _ _ _ _ _ _ _ _ _ _ _ _ _ _ ?kp ?kq ?kr ?ks ?kt ?kv ?kw) ?k1 ?k2 ?k3 ?k4 ?k5 ?kK ?kn ?kd ?ku ?_; (case k1 => k_asm); (case k2 => k_asm); (case k3 => k_asm); (case k4 => k_asm); (case k5 => k_asm); (case kK => first | assumption | exact rfl); (case kd => ktr_room); (case ku => ktr_units); (case kn => first | trivial | k_mem | walk_at "mine mem"); (case kp => omega); (case kq => omega); (case kr => omega); (case ks => omega); (case kt => omega); (case kv => omega); (case kw => first | assumption | exact other_ok _); intro v9 tl9 h9 tk9 r9 F9 N9; obtain ⟨e9, t9, f9⟩ := r9; subst e9 f9; (try dsimp only [List.nil_append, List.cons_append] at N9); (try dsimp only); (try k_fold); (try k_sweep))))
set_option maxRecDepth 100000 in
set_option maxHeartbeats 8000000 in
theorem s_l0 (w : World) (mean : ExcName → Option Value) (mg mb : Str → Option Value) (a : Addr) (ccd : Value) (h₀ : Heap) (L : Addr) (u : Str → Option Value) (news : List (Addr × Obj)) (s : Shared) (Q : Flow → Shared → Prop) (E : Value → Shared → Prop)
    (B : Below callerA h₀ [] h₀) (X : (hd.heap_39 w.params).In h₀) (T : Top hd.view_39 (looseW hd.view_39 [Str.ofString "_law_edges"]) mean mg mb h₀)
    (sc : Addr) (vs : List Value) (ns : List Int) (hL : h₀.IsList sc vs.toArray) (hI : IntsAre vs ns) (hlen : ¬ (63 : Int) < (ns.length : Int)) 
    (F : Fr h₀ L s.heap (kstB u [(Str.ofString "script", .ref sc)])) (N : News h₀ L s.heap [])
    (next : ∀ fi mode t0 t1 t2 t3 u h tk, (mode = 0 ∨ mode = 1) → Fr h₀ L h (kstB u [(Str.ofString "script", .ref sc), (Str.ofString "first", .int fi t0), (Str.ofString "mode", .int mode t1), (Str.ofString "base", .int (pBase mode) t2), (Str.ofString "top", .int (pTop mode) t3)]) → News h₀ L h [] → wpAny (model PySem.Challenge.rw_fe0353_01.row.prog w) (callerA.deeper (lawE L a ccd)) (execs (lawBody.drop 4) (lawE L a ccd)) Q E { s with heap := h, toks := tk }) :
    wpAny (model PySem.Challenge.rw_fe0353_01.row.prog w) (callerA.deeper (lawE L a ccd)) (execs lawBody (lawE L a ccd)) Q E s := by
  unfold lawE
  conv in (occs := *) lawS => all_goals whnf
  dsimp only
  revert X; k_fill; intro X
  dsimp only [kstB] at F
  refine my_seg (σ := Int × Int × Int × Int × Tok × Tok × Tok × Tok) (h₀ := h₀) (L := L) 4 (fun c => [(Str.ofString "script", .ref sc), (Str.ofString "first", .int c.1 c.2.2.2.2.1), (Str.ofString "mode", .int c.2.1 c.2.2.2.2.2.1), (Str.ofString "base", .int c.2.2.1 c.2.2.2.2.2.2.1), (Str.ofString "top", .int c.2.2.2.1 c.2.2.2.2.2.2.2)]) (fun c => []) (fun c => (c.2.1 = 0 ∨ c.2.1 = 1) ∧ c.2.2.1 = pBase c.2.1 ∧ c.2.2.2.1 = pTop c.2.1) ?_ ?_
  rotate_left
  · rintro ⟨c1, c2, c3, c4, c5, c6, c7, c8⟩ u9 h9 tk9 ⟨hP1, hP2, hP3⟩ F9 N9
    dsimp only at hP1 hP2 hP3 F9 N9
    subst hP2 hP3
    exact next _ _ _ _ _ _ u9 h9 tk9 hP1 F9 N9
  conv in (lawBody) => whnf
  simp only [List.take_succ_cons, List.take_zero]
  k_steps
  all_goals (refine cut_end (_, _, _, _, _, _, _, _) (by k_asm) (by refine news_drop' ?_ (by assumption); intro p hp; cases hp) (by (try dsimp only); walk_at "mine has") ?_ rfl rfl rfl; dsimp only)
  all_goals first | exact base_of rfl (.inl ⟨by assumption, rfl⟩) rfl | exact base_of rfl (.inr ⟨by assumption, rfl⟩) rfl | exact base_of (x := 0) rfl (.inr ⟨by decide, rfl⟩) rfl
end
/-- the walk begins as in a file of its own -/
theorem freshS12 : True := by w_top off; exact True.intro
section
local macro_rules | `(tactic| walk_at "call ref") => `(tactic| (k_here; k_dflt (refine' con_use (c_days _ _ _ _ _ _) ?k1 ?k2 ?k3 ?k4 ?k5 ?kK ?kn ?kd ?ku ?_; (case k1 => k_asm); (case k2 => k_asm); (case k3 => k_asm); (case k4 => k_asm); (case k5 => k_asm); (case kK => first | assumption | exact rfl); (case kd => ktr_room); (case ku => ktr_units); (case kn => first | trivial | k_mem | walk_at "mine mem");  intro v9 tl9 h9 tk9 r9 F9 N9; obtain ⟨e9, t9, f9⟩ := r9; subst e9 f9; (try dsimp only [List.nil_append, List.cons_append] at N9); (try dsimp only); (try k_fold); (try k_sweep))))
local macro_rules | `(tactic| walk_at "call ref") => `(tactic| (k_here; k_dflt (refine' conL_use (c_read_m _ _ _ _ ?kp) ?k1 ?k2 ?k3 ?k4 ?k5 ?kK ?kn ?kd ?ku ?_; (case k1 => k_asm); (case k2 => k_asm); (case k3 => k_asm); (case k4 => k_asm); (case k5 => k_asm); (case kK => first | assumption | exact rfl); (case kd => ktr_room); (case ku => ktr_units); (case kn => first | trivial | k_mem | walk_at "mine mem"); (case kp => first | assumption | exact other_ok _ | decide); intro v9 tl9 h9 tk9 r9 F9 N9; obtain ⟨e9, t9, f9⟩ := r9; subst e9 f9; (try dsimp only [List.nil_append, List.cons_append] at N9); (try dsimp only); (try k_fold); (try k_sweep))))
local macro_rules | `(tactic| walk_at "call ref") => `(tactic| (k_here; k_dflt (refine' conG_use (c_wmode _ _ _ _ _ _ _ _ _ _ _ _ _ _ _ ?kp ?kq ?kr ?ks ?kt ?kv ?kw) ?k1 ?k2 ?k3 ?k4 ?k5 ?kK ?kn ?kd ?ku ?_; (case k1 => k_asm); (case k2 => k_asm); (case k3 => k_asm); (case k4 => k_asm); (case k5 => k_asm); (case kK => first | assumption | exact rfl); (case kd => ktr_room); (case ku => ktr_units); (case kn => first | trivial | k_mem | walk_at "mine mem"); (case kp => omega); (case kq => omega); (case kr => omega); (case ks => omega); (case kt => omega); (case kv => omega); (case kw => first | assumption | exact other_ok _); intro v9 tl9 h9 tk9 r9 F9 N9; obtain ⟨e9, t9, f9⟩ := r9; subst e9 f9; (try dsimp only [List.nil_append, List.cons_append] at N9); (try dsimp only); (try k_fold); (try k_sweep))))
set_option maxRecDepth 100000 in
set_option maxHeartbeats 8000000 in
theorem s_l1 (w : World) (mean : ExcName → Option Value) (mg mb : Str → Option Value) (a : Addr) (ccd : Value) (h₀ : Heap) (L : Addr) (u : Str → Option Value) (news : List (Addr × Obj)) (s : Shared) (Q : Flow → Shared → Prop) (E : Value → Shared → Prop)
    (B : Below callerA h₀ [] h₀) (X : (hd.heap_39 w.params).In h₀) (T : Top hd.view_39 (looseW hd.view_39 [Str.ofString "_law_edges"]) mean mg mb h₀)
    (sc : Addr) (vs : List Value) (ns : List Int) (hL : h₀.IsList sc vs.toArray) (hI : IntsAre vs ns) (hlen : ¬ (63 : Int) < (ns.length : Int))  (mode fi : Int) (t0 t1 t2 t3 : Tok) (hm : mode = 0 ∨ mode = 1)
    (F : Fr h₀ L s.heap (kstB u [(Str.ofString "script", .ref sc), (Str.ofString "first", .int fi t0), (Str.ofString "mode", .int mode t1), (Str.ofString "base", .int (pBase mode) t2), (Str.ofString "top", .int (pTop mode) t3)])) (N : News h₀ L s.heap [])
    (next : ∀ o t4 u h tk, o ≠ 0 ∧ o ≠ 1 → Fr h₀ L h (kstB u [(Str.ofString "script", .ref sc), (Str.ofString "mode", .int mode t1), (Str.ofString "base", .int (pBase mode) t2), (Str.ofString "top", .int (pTop mode) t3), (Str.ofString "other", .int o t4)]) → News h₀ L h [] → wpAny (model PySem.Challenge.rw_fe0353_01.row.prog w) (callerA.deeper (lawE L a ccd)) (execs (lawBody.drop 5) (lawE L a ccd)) Q E { s with heap := h, toks := tk }) :
    wpAny (model PySem.Challenge.rw_fe0353_01.row.prog w) (callerA.deeper (lawE L a ccd)) (execs (lawBody.drop 4) (lawE L a ccd)) Q E s := by
  unfold lawE
  conv in (occs := *) lawS => all_goals whnf
  dsimp only
  revert X; k_fill; intro X
  dsimp only [kstB] at F
  refine my_seg (σ := Int × Tok) (h₀ := h₀) (L := L) 1 (fun c => [(Str.ofString "script", .ref sc), (Str.ofString "mode", .int mode t1), (Str.ofString "base", .int (pBase mode) t2), (Str.ofString "top", .int (pTop mode) t3), (Str.ofString "other", .int c.1 c.2)]) (fun c => []) (fun c => c.1 ≠ 0 ∧ c.1 ≠ 1) ?_ ?_
  rotate_left
  · rintro ⟨c1, c2⟩ u9 h9 tk9 hP F9 N9
    exact next _ _ u9 h9 tk9 hP F9 N9
  conv in (lawBody) => whnf
  simp only [List.take_succ_cons, List.take_zero, List.drop_succ_cons, List.drop_zero]
  k_steps
  all_goals (refine cut_end (_, _) (by k_asm) (by refine news_drop' ?_ (by assumption); intro p hp; cases hp) (by (try dsimp only); walk_at "mine has") ?_ rfl rfl rfl; dsimp only)
  all_goals decide
set_option maxRecDepth 100000 in
set_option maxHeartbeats 8000000 in
theorem s_l2 (w : World) (mean : ExcName → Option Value) (mg mb : Str → Option Value) (a : Addr) (ccd : Value) (h₀ : Heap) (L : Addr) (u : Str → Option Value) (news : List (Addr × Obj)) (s : Shared) (Q : Flow → Shared → Prop) (E : Value → Shared → Prop)
    (B : Below callerA h₀ [] h₀) (X : (hd.heap_39 w.params).In h₀) (T : Top hd.view_39 (looseW hd.view_39 [Str.ofString "_law_edges"]) mean mg mb h₀)
    (sc : Addr) (vs : List Value) (ns : List Int) (hL : h₀.IsList sc vs.toArray) (hI : IntsAre vs ns) (hlen : ¬ (63 : Int) < (ns.length : Int))  (mode o : Int) (t1 t2 t3 t4 : Tok) (hm : mode = 0 ∨ mode = 1) (ho : o ≠ 0 ∧ o ≠ 1)
    (F : Fr h₀ L s.heap (kstB u [(Str.ofString "script", .ref sc), (Str.ofString "mode", .int mode t1), (Str.ofString "base", .int (pBase mode) t2), (Str.ofString "top", .int (pTop mode) t3), (Str.ofString "other", .int o t4)])) (N : News h₀ L s.heap [])
    (next : ∀ u h tk, Fr h₀ L h (kstB u [(Str.ofString "script", .ref sc), (Str.ofString "mode", .int mode t1), (Str.ofString "base", .int (pBase mode) t2), (Str.ofString "top", .int (pTop mode) t3), (Str.ofString "before", .none)]) → News h₀ L h [] → wpAny (model PySem.Challenge.rw_fe0353_01.row.prog w) (callerA.deeper (lawE L a ccd)) (execs (lawBody.drop 7) (lawE L a ccd)) Q E { s with heap := h, toks := tk }) :
    wpAny (model PySem.Challenge.rw_fe0353_01.row.prog w) (callerA.deeper (lawE L a ccd)) (execs (lawBody.drop 5) (lawE L a ccd)) Q E s := by
  unfold lawE
  conv in (occs := *) lawS => all_goals whnf
  dsimp only
  revert X; k_fill; intro X
  dsimp only [kstB] at F
  refine my_seg (σ := Unit) (h₀ := h₀) (L := L) 2 (fun c => [(Str.ofString "script", .ref sc), (Str.ofString "mode", .int mode t1), (Str.ofString "base", .int (pBase mode) t2), (Str.ofString "top", .int (pTop mode) t3), (Str.ofString "before", .none)]) (fun c => []) (fun c => True) ?_ ?_
  rotate_left
  · rintro c u9 h9 tk9 hP F9 N9
    exact next u9 h9 tk9 F9 N9
  conv in (lawBody) => whnf
  simp only [List.take_succ_cons, List.take_zero, List.drop_succ_cons, List.drop_zero]
  k_steps
  all_goals exact cut_end () (by k_asm) (by refine news_drop' ?_ (by assumption); intro p hp; cases hp) (by (try dsimp only); walk_at "mine has") True.intro rfl rfl rfl
end
/-- the walk begins as in a file of its own -/
theorem freshS13 : True := by w_top off; exact True.intro
section
local macro_rules | `(tactic| walk_at "pyIter ref") => `(tactic| (k_here; refine Stuck.mk ?_))
set_option maxRecDepth 100000 in
set_option maxHeartbeats 8000000 in
theorem s_l3 (w : World) (mean : ExcName → Option Value) (mg mb : Str → Option Value) (a : Addr) (ccd : Value) (h₀ : Heap) (L : Addr) (u : Str → Option Value) (news : List (Addr × Obj)) (s : Shared) (Q : Flow → Shared → Prop) (E : Value → Shared → Prop)
    (B : Below callerA h₀ [] h₀) (X : (hd.heap_39 w.params).In h₀) (T : Top hd.view_39 (looseW hd.view_39 [Str.ofString "_law_edges"]) mean mg mb h₀)
    (sc : Addr) (vs : List Value) (ns : List Int) (hL : h₀.IsList sc vs.toArray) (hI : IntsAre vs ns) (hlen : ¬ (63 : Int) < (ns.length : Int))  (mode : Int) (t1 t2 t3 : Tok) (hm : mode = 0 ∨ mode = 1)
    (F : Fr h₀ L s.heap (kstB u [(Str.ofString "script", .ref sc), (Str.ofString "mode", .int mode t1), (Str.ofString "base", .int (pBase mode) t2), (Str.ofString "top", .int (pTop mode) t3), (Str.ofString "before", .none)])) (N : News h₀ L s.heap [])
    (next : ∀ m led h tk, Fr h₀ L h m → News h₀ L h led → wpAny (model PySem.Challenge.rw_fe0353_01.row.prog w) (callerA.deeper (lawE L a ccd)) (execs (lawBody.drop 8) (lawE L a ccd)) Q E { s with heap := h, toks := tk }) :
    wpAny (model PySem.Challenge.rw_fe0353_01.row.prog w) (callerA.deeper (lawE L a ccd)) (execs (lawBody.drop 7) (lawE L a ccd)) Q E s := by
  unfold lawE
  conv in (occs := *) lawS => all_goals whnf
  dsimp only
  revert X; k_fill; intro X
  dsimp only [kstB] at F
  conv in (lawBody) => whnf
  simp only [List.drop_succ_cons, List.drop_zero]
  walk_at "execs cons"
  refine for_false h₀ rfl rfl (by intro _; rfl) ?_
  k_steps
  unfold Stuck
  with_reducible rename Fr _ _ _ _ => F8
  with_reducible rename News _ _ _ _ => N8
  with_reducible rename IntsAre _ (_ ++ _) => I8
  refine my_for (σ := Value × List (Addr × Obj)) (bPs mode t1 t2 t3) (fun c => c.2) (bP mode) (.none, []) rfl (List.mem_cons_self ..) I8 F8 N8 (by (try dsimp only [bPs]); walk_at "mine has") (by intro p hp; cases hp) (fun c hc => hc.2) ⟨.inl rfl, by intro p hp; cases hp⟩ ?_ ?_
  · intro n t c u9 h9 tk9 own hn hc F9 N9
    exact s_turn w mean mg mb a ccd h₀ L u9 _ _ _ B X T mode t1 t2 t3 hm n t (nums_ok hn) c hc own F9 N9
  · intro c u9 h9 tk9 hc F9 N9
    exact next _ _ _ _ F9 N9
end
/-- the walk begins as in a file of its own -/
theorem freshM5 : True := by w_top off; exact True.intro
section
theorem lookup_one (k : Str) (v : Value) : (fun y => List.lookup y [(k, v)]) = kstB (fun _ => none) [(k, v)] := by
  funext y
  show List.lookup y [(k, v)] = if y = k then some v else none
  by_cases e : y = k
  · subst e; simp [List.lookup]
  · have : (y == k) = false := by simpa using e
    simp [List.lookup, this, e]
theorem fr_one {h₀ h : Heap} {L : Addr} {k : Str} {v : Value} (F : Fr h₀ L h (fun y => List.lookup y [(k, v)])) : Fr h₀ L h (kstB (fun _ => none) [(k, v)]) := by rw [← lookup_one]; exact F
set_option maxRecDepth 100000 in
set_option maxHeartbeats 8000000 in
theorem L : PySem.Challenge.rw_fe0353_01.Holds := hd (by
  k_go0
  all_goals (try k_fold)
  dsimp only
  show wpAny (model PySem.Challenge.rw_fe0353_01.row.prog _) (callerA.deeper (lawE _ _ _)) (execs lawBody (lawE _ _ _)) _ _ _
  refine' s_l0 _ _ _ _ _ _ _ _ (fun _ => none) [] _ _ _ ?B ?X ?T _ _ _ ?hL ?hI ?hlen ?F ?N ?_
  case hL => assumption
  case hI => assumption
  case hlen => assumption
  case B => first | k_asm | assumption
  case X => k_asm
  case T => k_asm
  case N => k_asm
  case F => exact fr_one (by assumption)
  intro fi mode t0 t1 t2 t3 u h tk hm F1 N1
  refine' s_l1 _ _ _ _ _ _ _ _ _ [] _ _ _ ?B ?X ?T _ _ _ ?hL ?hI ?hlen _ _ _ _ _ _ hm F1 N1 ?_
  case hL => assumption
  case hI => assumption
  case hlen => assumption
  case B => first | k_asm | assumption
  case X => k_asm
  case T => k_asm
  intro o t4 u h tk ho F1 N1
  refine' s_l2 _ _ _ _ _ _ _ _ _ [] _ _ _ ?B ?X ?T _ _ _ ?hL ?hI ?hlen _ _ _ _ _ _ hm ho F1 N1 ?_
  case hL => assumption
  case hI => assumption
  case hlen => assumption
  case B => first | k_asm | assumption
  case X => k_asm
  case T => k_asm
  intro u h tk F1 N1
  refine' s_l3 _ _ _ _ _ _ _ _ _ [] _ _ _ ?B ?X ?T _ _ _ ?hL ?hI ?hlen _ _ _ _ hm F1 N1 ?_
  case hL => assumption
  case hI => assumption
  case hlen => assumption
  case B => first | k_asm | assumption
  case X => k_asm
  case T => k_asm
  intro m led h tk F1 N1
  conv in (lawBody) => whnf
  simp only [List.drop_succ_cons, List.drop_zero]
  k_steps)
end
end Mine
set_option maxRecDepth 100000 in
theorem PySem.Challenge.cw_fe0353_01_holds : PySem.Challenge.rw_fe0353_01.Holds := by
  exact Mine.L
