import PyProof.Rows.All
import Wide.All
import OpenK.AllK
import Wide.FinOn
import PyProof.FactsTree
import PyProof.PlainAttrs
import Lean
import PySem.Challenge.RW_wn0018_01
set_option Elab.async false
set_option linter.all false
section
open PySem PySem.W PyProof.Rows
namespace Mine
set_option maxRecDepth 100000 in
set_option maxHeartbeats 8000000 in
open_top hd for PySem.Challenge.rw_wn0018_01
end Mine
end
section
open PySem PySem.W PyProof.Rows
set_option maxRecDepth 100000
namespace Mine
/-- a call's contract, seen from a caller's frame -/
noncomputable abbrev CC (w : World) (mean : ExcName → Option Value) (mg mb : Str → Option Value) (f : Addr) (news : List (Addr × Obj)) (vs : List Value) (R : Value → List (Addr × Obj) → Prop) : Prop :=
  ∀ (dp un : Nat) (gd : Option (List Code)) (cn : Str) (cs : Scope) (a : Addr) (ccd : Value) (cl : List (Str × Addr)) (outer : List Env) (A₀ : Around) (base h₀ : Heap) (L : Addr) (m : Str → Option Value) (s : Shared) (Q E : Value → Shared → Prop),
    Below A₀ base outer h₀ → Fr h₀ L s.heap m → (Mine.hd.heap_39 w.params).In h₀ → News h₀ L s.heap news →
    Top Mine.hd.view_39 [Str.ofString "_twin_re_1", Str.ofString "_twin_re_2", Str.ofString "_sre"] mean mg mb h₀ → cs.kind = .function → dp + 4 < recursionLimit → un + 32 < cLine →
    (∀ r tl h' tk', R r tl → Fr h₀ L h' m → News h₀ L h' (tl ++ news) → Q r { s with heap := h', toks := tk' }) →
      wpAny (model PySem.Challenge.rw_wn0018_01.row.prog w) (ktrTop dp un gd cn cs L a ccd cl outer) (call (.ref f) vs) Q E s
theorem exposeM {m : Str → Option Value} {x : Str} {v : Value} (h : m x = some v) : m = fun y => if y = x then some v else m y := by
  funext y; by_cases e : y = x
  · rw [if_pos e, e, h]
  · rw [if_neg e]
end Mine
end
section
open PySem PySem.W PyProof.Rows
set_option maxRecDepth 100000
namespace Mine
noncomputable def defOf (x : Str) : List Stmt → Arguments × List Stmt × Scope
  | [] => (default, [], default)
  | .FunctionDef (name := n) (args := a) (body := b) (scope := s) .. :: r => if n = x then (a, b, s) else defOf x r
  | _ :: r => defOf x r
noncomputable def lawDef : Arguments × List Stmt × Scope := defOf (Str.ofString "law") PySem.Challenge.pw_wn0018_01.main.body
noncomputable def lawBody : List Stmt := lawDef.2.1
noncomputable def lawScope : Scope := lawDef.2.2
noncomputable def st (i : Nat) : Stmt := lawBody.getD i default
noncomputable def forBody : Stmt → List Stmt
  | .For (body := b) .. => b
  | _ => []
noncomputable def lb (i : Nat) : Stmt := (forBody (st 8)).getD i default
noncomputable abbrev lawCells (L : Addr) : List (Str × Addr) := [(Str.ofString "mine", L+10), (Str.ofString "after", L+9), (Str.ofString "taken", L+8), (Str.ofString "v", L+7), (Str.ofString "friends", L+6), (Str.ofString "post", L+5), (Str.ofString "edges", L+4), (Str.ofString "wanted", L+3), (Str.ofString "small", L+2), (Str.ofString "n", L+1)]
noncomputable abbrev lawEnv (L fa : Addr) (cd : Value) : Env := envX (Str.ofString "law") lawScope L fa cd (lawCells L)
end Mine
end
section
open PySem PySem.W PyProof.Rows
set_option maxRecDepth 100000
namespace Mine
section
variable {h₀ h : Heap} {L : Addr} {m : Str → Option Value} {x y z u : Str} {a b c d : Value}
theorem ex1 (h1 : m x = some a) : (fun k => if k = x then some a else m k) = m := by
  funext k; by_cases e : k = x
  · rw [if_pos e, e, h1]
  · rw [if_neg e]
theorem Fr_ex1 (F : Fr h₀ L h m) (h1 : m x = some a) : Fr h₀ L h (fun k => if k = x then some a else m k) := by
  rw [ex1 h1]; exact F
theorem Fr_ex2 (F : Fr h₀ L h m) (h1 : m x = some a) (h2 : m y = some b) : Fr h₀ L h (fun k => if k = x then some a else if k = y then some b else m k) := by
  have e : (fun k => if k = x then some a else if k = y then some b else m k) = (fun k => if k = x then some a else (fun k => if k = y then some b else m k) k) := rfl
  rw [e, ex1 h2, ex1 h1]; exact F
theorem Fr_ex3 (F : Fr h₀ L h m) (h1 : m x = some a) (h2 : m y = some b) (h3 : m z = some c) : Fr h₀ L h (fun k => if k = x then some a else if k = y then some b else if k = z then some c else m k) := by
  have e : (fun k => if k = x then some a else if k = y then some b else if k = z then some c else m k) = (fun k => if k = x then some a else (fun k => if k = y then some b else (fun k => if k = z then some c else m k) k) k) := rfl
  rw [e, ex1 h3, ex1 h2, ex1 h1]; exact F
theorem Fr_ex4 (F : Fr h₀ L h m) (h1 : m x = some a) (h2 : m y = some b) (h3 : m z = some c) (h4 : m u = some d) : Fr h₀ L h (fun k => if k = x then some a else if k = y then some b else if k = z then some c else if k = u then some d else m k) := by
  have e : (fun k => if k = x then some a else if k = y then some b else if k = z then some c else if k = u then some d else m k) = (fun k => if k = x then some a else (fun k => if k = y then some b else (fun k => if k = z then some c else (fun k => if k = u then some d else m k) k) k) k) := rfl
  rw [e, ex1 h4, ex1 h3, ex1 h2, ex1 h1]; exact F
end
end Mine
end
section
open PySem PySem.W PyProof.Rows
namespace Mine
theorem item_sp {x : Str} {i : Int} (h0 : 0 ≤ i) (h1 : i < (x.length : Int)) : (Txt.item x i == Str.ofString " ") = decide (x.cps.toList.getD i.toNat 0 = 32) := by
  rw [item_at h0 h1 rfl]
  have e : Str.ofString " " = ⟨#[32]⟩ := by decide +kernel
  rw [e]
  have g : x.cps.getD i.toNat 0 = x.cps.toList.getD i.toNat 0 := by simp [Array.getD_eq_getD_getElem?, List.getD_eq_getElem?_getD]
  rw [g]
  generalize x.cps.toList.getD i.toNat 0 = k
  by_cases hk : k = 32
  · subst hk; rfl
  · rw [decide_eq_false hk]
    rw [beq_eq_false_iff_ne]
    intro h
    apply hk
    have := congrArg (fun s : Str => s.cps.toList) h
    simpa using this
theorem len_list (x : Str) : x.length = x.cps.toList.length := by
  show x.cps.size = _
  simp
/-- blanks, a core, blanks -/
structure Pad (x : Str) (l : Nat) (c : List Nat) (r : Nat) : Prop where
  eq : x.cps.toList = List.replicate l 32 ++ c ++ List.replicate r 32
  first : ∃ a t, c = a :: t ∧ a ≠ 32
  last : ∃ a t, c = t ++ [a] ∧ a ≠ 32
theorem Pad.len {x : Str} {l r : Nat} {c : List Nat} (p : Pad x l c r) : x.length = l + c.length + r := by
  rw [len_list, p.eq]; simp; omega
theorem Pad.pos {x : Str} {l r : Nat} {c : List Nat} (p : Pad x l c r) : 1 ≤ c.length := by
  obtain ⟨a, t, e, _⟩ := p.first
  rw [e]; simp
theorem Pad.left {x : Str} {l r : Nat} {c : List Nat} (p : Pad x l c r) {i : Nat} (h : i ≤ l) : (Txt.item x (i : Int) == Str.ofString " ") = decide (i < l) := by
  have hl := p.len
  have hp := p.pos
  rw [item_sp (by omega) (by omega), p.eq]
  rw [Int.toNat_natCast]
  by_cases hi : i < l
  · rw [List.getD_eq_getElem?_getD, List.append_assoc, List.getElem?_append_left (by simpa using hi)]
    simp [hi]
  · have e : i = l := by omega
    subst e
    obtain ⟨a, t, ec, ha⟩ := p.first
    rw [List.getD_eq_getElem?_getD, List.append_assoc, List.getElem?_append_right (by simp), ec]
    simp [ha]
theorem Pad.right {x : Str} {l r : Nat} {c : List Nat} (p : Pad x l c r) {j : Nat} (h : j ≤ r) : (Txt.item x ((x.length : Int) - 1 - j) == Str.ofString " ") = decide (j < r) := by
  have hl := p.len
  have hp := p.pos
  rw [item_sp (by omega) (by omega), p.eq]
  by_cases hj : j < r
  · have e : ((x.length : Int) - 1 - j).toNat = (l + c.length) + (r - 1 - j) := by omega
    rw [e, List.getD_eq_getElem?_getD, List.getElem?_append_right (by simp)]
    have e2 : l + c.length + (r - 1 - j) - (List.replicate l 32 ++ c).length = r - 1 - j := by simp
    rw [e2, List.getElem?_replicate, if_pos (by omega)]
    simp [hj]
  · have h0 : j = r := by omega
    have e : ((x.length : Int) - 1 - j).toNat = l + (c.length - 1) := by omega
    rw [e, List.getD_eq_getElem?_getD, List.getElem?_append_left (by simp; omega), List.getElem?_append_right (by simp)]
    obtain ⟨a, t, ec, ha⟩ := p.last
    have e2 : l + (c.length - 1) - (List.replicate l 32).length = t.length := by rw [ec]; simp
    rw [e2, ec]
    simp [ha, hj]
theorem Pad.slice {x : Str} {l r : Nat} {c : List Nat} (p : Pad x l c r) {i j : Nat} (hi : i ≤ l) (hj : j ≤ r) : (Txt.slice x (some (i : Int)) (some ((x.length : Int) - 1 - j + 1))).cps.toList = List.replicate (l - i) 32 ++ c ++ List.replicate (r - j) 32 := by
  have hl := p.len
  have hp := p.pos
  have h := eq_of_beq (slice_closesL (x := x) (i := (i : Int)) (j := (x.length : Int) - 1 - j + 1) (by omega) (by omega) (by omega))
  rw [h]
  show List.take _ (List.drop _ _) = _
  rw [p.eq, Int.toNat_natCast]
  have e : ((x.length : Int) - 1 - j + 1 - i).toNat = (l - i) + c.length + (r - j) := by omega
  rw [e, List.append_assoc, List.drop_append_of_le_length (by simp; omega), List.drop_replicate, ← List.append_assoc]
  rw [List.take_append]
  have e1 : (List.replicate (l - i) 32 ++ c).length = (l - i) + c.length := by simp
  rw [e1, List.take_of_length_le (by rw [e1]; omega)]
  have e2 : l - i + c.length + (r - j) - (l - i + c.length) = r - j := by omega
  rw [e2, List.take_replicate, Nat.min_eq_left (by omega)]
end Mine
end
section
open PySem PySem.W PyProof.Rows
set_option maxRecDepth 100000
namespace Mine
/-- a turn's end -/
noncomputable def TurnEnd (h₀ : Heap) (L I : Addr) (oI : Obj) (J : (Str → Option Value) → List (Addr × Obj) → Prop) (Q : Flow → Shared → Prop) (s : Shared) (f : Flow) (s₃ : Shared) : Prop :=
  match f with
  | .ret v => Q (.ret v) s₃
  | .brk => Q .next s₃
  | _ => ∃ h' tk m₂ news₂, s₃ = { s with heap := h', toks := tk } ∧ Fr h₀ L h' m₂ ∧ News h₀ L h' ((I, oI) :: news₂) ∧ (∀ p ∈ news₂, p.1 ≠ I) ∧ J m₂ news₂
theorem TurnEnd.next {h₀ : Heap} {L I : Addr} {oI : Obj} {J : (Str → Option Value) → List (Addr × Obj) → Prop} {Q : Flow → Shared → Prop} {s : Shared} {h' : Heap} {tk : Nat} {m₂ : Str → Option Value} {news₂ : List (Addr × Obj)}
    (F : Fr h₀ L h' m₂) (N : News h₀ L h' ((I, oI) :: news₂)) (ho : ∀ p ∈ news₂, p.1 ≠ I) (hJ : J m₂ news₂) : TurnEnd h₀ L I oI J Q s .next { s with heap := h', toks := tk } :=
  ⟨h', tk, m₂, news₂, rfl, F, N, ho, hJ⟩
noncomputable def ForPost (prog : Program) (w : World) (A : Around) (E : Value → Shared → Prop) (Q : Flow → Shared → Prop) (env : Env) (h₀ : Heap) (x : Str) (px : Pos) (body : List Stmt) (xv : Value) (s₁ : Shared) : Prop :=
  ∃ (r : Addr) (a b : Int) (t u v : Tok) (n : Nat) (m : Str → Option Value) (news : List (Addr × Obj)) (J : Nat → (Str → Option Value) → List (Addr × Obj) → Prop),
      xv = .ref r ∧ IsRange s₁.heap r a b 1 t u v ∧ Builtin.Range.small a b 1 = true ∧ Builtin.Range.rangeSize a b 1 = (n : Int) ∧ Fr h₀ env.locals s₁.heap m ∧ News h₀ env.locals s₁.heap news ∧ J 0 m news ∧
      (∀ i m₁ news₁ I oI h tk t, i < n → J i m₁ news₁ → Fr h₀ env.locals h m₁ → News h₀ env.locals h ((I, oI) :: news₁) → (∀ p ∈ news₁, p.1 ≠ I) → env.locals < I →
        wpAny (model prog w) A (assign (.Name x px) env (.int (a + (i : Int)) t)) (fun _ s' => wpAny (model prog w) A (execs body env) (TurnEnd h₀ env.locals I oI (J (i + 1)) Q { s₁ with heap := h, toks := tk }) E s') E { s₁ with heap := h, toks := tk }) ∧
      (∀ m₁ news₁ h tk, J n m₁ news₁ → Fr h₀ env.locals h m₁ → News h₀ env.locals h news₁ → Q .next { s₁ with heap := h, toks := tk })
section
variable {prog : Program} {w : World} {A : Around} {E : Value → Shared → Prop} {Q : Flow → Shared → Prop} {s : Shared} {env : Env} {h₀ : Heap}
theorem ForR {x : Str} {px pos : Pos} {iter : Expr} {body : List Stmt} (hh : A.handled = none)
    (h : wpAny (model prog w) A (eval iter env) (ForPost prog w A E Q env h₀ x px body) E s)
    (hs : ∀ x, foldedSetIterable iter env x = pure x := by intro _; rfl)
    (hE : PassesOwn (model prog w) A env E := by passes_own) :
    wpAny (model prog w) A (exec (.For (.Name x px) iter body [] pos) env) Q E s := by
  refine wpAny_For (wpAny_mono h (fun xv s₁ h₁ => ?_) fun _ _ e => e) hs
  obtain ⟨r, a, b, t, u, v, n, m, news, J, rfl, hr, hsm, hn, F, N, hJ, turn, done⟩ := h₁
  refine wpAny_pyIter_range hr hsm ?_
  generalize hI : s₁.heap.objs.size = I
  have hLI : env.locals < I := hI ▸ F.ns.lt
  have hIn : h₀.get? I = none := by
    have := next_is_new F
    rw [hI] at this
    exact this
  have W := LCg.range_walks (prog := prog) (w := w) (A := A) (I := I) hh a n
  refine codeAny_forLoop (fun k s' => ∃ h' tk m' news' i, s' = { s₁ with heap := h', toks := tk } ∧ IsRangeIter h' I (a + (i : Nat) * 1) ((n : Int) - (i : Nat)) 1 ∧ Fr h₀ env.locals h' m' ∧ News h₀ env.locals h' news' ∧ (∀ p ∈ news', p.1 ≠ I) ∧ J i m' news' ∧ i ≤ n ∧ k = n + 1 - i) ?_ (n + 1)
    ⟨_, s₁.toks, m, news, 0, rfl, ?_, F.push _, (fun p hp => ⟨Heap.get?_push_of_some _ (N p hp).1, (N p hp).2⟩), (fun p hp e => ?_), hJ, Nat.zero_le _, rfl⟩
  · rintro k s' ⟨h', tk, m', news', i, rfl, hst, F', N', hoff, hJ', hi, rfl⟩
    by_cases hlt : i < n
    · refine W.item i _ _ _ hlt hst fun v h₁ tk₁ hP hst₁ hk₁ => ?_
      obtain ⟨t', rfl⟩ := hP
      have F₁ : Fr h₀ env.locals h₁ m' := LCg.fr_but F' hk₁ (Nat.ne_of_lt hLI) hIn
      have N₁ : News h₀ env.locals h₁ news' := LCg.news_but N' hk₁ hoff
      obtain ⟨oI, hoI⟩ : ∃ oI, h₁.get? I = some oI := ⟨_, hst₁⟩
      have N₂ : News h₀ env.locals h₁ ((I, oI) :: news') := by
        intro p hp
        rcases List.mem_cons.mp hp with rfl | hp
        · exact ⟨hoI, Nat.ne_of_gt hLI, hIn⟩
        · exact N₁ p hp
      refine wpAny_passesOwn hE (wpAny_mono (turn i m' news' I oI h₁ tk₁ t' hlt hJ' F₁ N₂ hoff hLI) (fun _ s₂ h₂ => ?_) fun _ _ e => e)
      refine wpAny_passesOwn hE (wpAny_mono h₂ (fun f s₃ h₃ => ?_) fun _ _ e => e)
      have fin : (∃ h'' tk m₂ news₂, s₃ = { ({ s₁ with heap := h₁, toks := tk₁ } : Shared) with heap := h'', toks := tk } ∧ Fr h₀ env.locals h'' m₂ ∧ News h₀ env.locals h'' ((I, oI) :: news₂) ∧ (∀ p ∈ news₂, p.1 ≠ I) ∧ J (i + 1) m₂ news₂) →
          ∃ k', k' < n + 1 - i ∧ ∃ h' tk m' news' i, s₃ = { s₁ with heap := h', toks := tk } ∧ IsRangeIter h' I (a + (i : Nat) * 1) ((n : Int) - (i : Nat)) 1 ∧ Fr h₀ env.locals h' m' ∧ News h₀ env.locals h' news' ∧ (∀ p ∈ news', p.1 ≠ I) ∧ J i m' news' ∧ i ≤ n ∧ k' = n + 1 - i := by
        rintro ⟨h'', tk'', m₂, news₂, rfl, F₃, N₃, ho₃, hJ₃⟩
        refine ⟨n + 1 - (i + 1), by omega, h'', tk'', m₂, news₂, i + 1, rfl, ?_, F₃, fun p hp => N₃ p (.tail _ hp), ho₃, hJ₃, hlt, rfl⟩
        have e1 : h''.get? I = some oI := (N₃ _ (.head _)).1
        have e2 : h₁.get? I = some _ := hst₁
        rw [hoI] at e2
        show h''.get? I = some _
        rw [e1, e2]
      cases f with
      | ret v => exact h₃
      | brk => exact h₃
      | next => exact fin h₃
      | cont => exact fin h₃
    · have hin : i = n := by omega
      subst hin
      refine W.done _ _ _ hst fun h₁ tk₁ hk₁ => wpAny_execs_nil ?_
      exact done m' news' h₁ tk₁ hJ' (LCg.fr_but F' hk₁ (Nat.ne_of_lt hLI) hIn) (LCg.news_but N' hk₁ hoff)
  · show IsRangeIter _ _ _ _ _
    rw [hn, ← hI]
    simpa using Heap.get?_push_size _ rfl
  · have := Heap.lt_size (N p hp).1
    rw [e, ← hI] at this
    exact Nat.lt_irrefl _ this
end
section
variable {M : Model} {A : Around} {E : Value → Shared → Prop} {s : Shared} {h₀ : Heap} {L a : Addr} {m : Str → Option Value} {cn : Str} {cs : Scope} {ccd : Value} {cl : List (Str × Addr)}
  {x : Str} {v : Value} {Q : Unit → Shared → Prop} {own rest : List (Addr × Obj)} {c : Addr} {o : Obj} {v₀ : Option Value}
/-- a store into a cell of the ledger -/
theorem stCell (F : Fr h₀ L s.heap m) (N : News h₀ L s.heap (own ++ (c, o) :: rest)) (hd : o.data = .cell v₀) (h1 : ∀ p ∈ own, p.1 ≠ c) (h2 : ∀ p ∈ rest, p.1 ≠ c)
    (h : ∀ h' o', Fr h₀ L h' m → News h₀ L h' (own ++ (c, o') :: rest) → o'.data = .cell (some v) → Q () { s with heap := h' })
    (hc : cl.lookup x = some c := by rfl) (hk : cs.kind = .function := by rfl) (hx : (envX cn cs L a ccd cl).kindOf x = some .cell := by rfl) : wpAny M A (storeName (envX cn cs L a ccd cl) x v) Q E s := by
  have hm := N (c, o) (List.mem_append_right _ (.head _))
  refine wpAny_storeName_cell hk hx hc ⟨o, hm.1, hd⟩ fun h' hv hs => ?_
  obtain ⟨o', ho', hd'⟩ := hv
  refine h h' o' ⟨F.ns.sameBut hs (Ne.symm hm.2.1), fun b ob e => (hs.2 b (fun q => ?_)).trans (F.keep b ob e), F.above⟩ (N.setAt h1 h2 hs ho') hd'
  rw [q, hm.2.2] at e
  cases e
theorem off1 {p : Addr × Obj} (h : p.1 ≠ c) : ∀ q ∈ [p], q.1 ≠ c := fun _ hq => by rw [List.mem_singleton.mp hq]; exact h
theorem off2 {p p' : Addr × Obj} (h : p.1 ≠ c) (h' : p'.1 ≠ c) : ∀ q ∈ [p, p'], q.1 ≠ c := fun q hq => by
  rcases List.mem_cons.mp hq with rfl | hq
  · exact h
  · exact off1 h' q hq
end
end Mine
end
section
open PySem PySem.W PyProof.Rows
set_option maxRecDepth 100000
set_option maxHeartbeats 8000000
namespace Mine
theorem C_strcoll (w : World) (mean : ExcName → Option Value) (mg mb : Str → Option Value) (news : List (Addr × Obj)) (a b : Str) (ta tb : Tok)  :
  CC w mean mg mb 38 news [.str a ta, .str b tb] (fun r tl => tl = [] ∧ ∃ t, r = .int (b2i (decide (b.cps.toList < a.cps.toList)) - b2i (decide (a.cps.toList < b.cps.toList))) t) := by
  w_on
  unfold CC; k_fill
  intro dp un gd cn cs fa ccd cl outer A₀ base h₀ L m s Q E B F X N T hk hdp hun hret
  refine wpAny_call ?_
  k_dflt (refine' code_def ?k1 ?k2 ?k3 ?k4 ?k5 ?kA ?kF ?kK ?k6 ?k7 ?k8 ?k9 ?kB ?_ ?c2 ?c3 ?c4 ?c5; (case kA => exact rfl); (case kF => exact rfl); (case kK => assumption); (case k1 => k_asm); (case k2 => k_asm); (case k3 => k_asm); (case k4 => k_asm); (case k5 => k_asm); (case k6 => k_is); (case k7 => k_is); (case k8 => ktr_room); (case k9 => exact BindsTo.of_eq rfl); (case c5 => decide); (case kB => exact locs rfl); (case c2 => exact rfl); (case c3 => exact rfl); (case c4 => exact rfl); k_whole; intro g' L' h' FG' F' N' B' X' T'; (try dsimp only); (try k_lift B'); (try k_fold))
  k_steps
  all_goals exact hret _ [] _ _ ⟨rfl, _, rfl⟩ (by k_asm) (by k_asm)
end Mine
end
section
open PySem PySem.W PyProof.Rows
set_option maxRecDepth 100000
set_option maxHeartbeats 8000000
namespace Mine
local macro_rules | `(tactic| k_all) => `(tactic| assumption)
/-- as CC, with more room -/
noncomputable abbrev CC2 (w : World) (mean : ExcName → Option Value) (mg mb : Str → Option Value) (f : Addr) (news : List (Addr × Obj)) (vs : List Value) (R : Value → List (Addr × Obj) → Prop) : Prop :=
  ∀ (dp un : Nat) (gd : Option (List Code)) (cn : Str) (cs : Scope) (a : Addr) (ccd : Value) (cl : List (Str × Addr)) (outer : List Env) (A₀ : Around) (base h₀ : Heap) (L : Addr) (m : Str → Option Value) (s : Shared) (Q E : Value → Shared → Prop),
    Below A₀ base outer h₀ → Fr h₀ L s.heap m → (Mine.hd.heap_39 w.params).In h₀ → News h₀ L s.heap news →
    Top Mine.hd.view_39 [Str.ofString "_twin_re_1", Str.ofString "_twin_re_2", Str.ofString "_sre"] mean mg mb h₀ → cs.kind = .function → dp + 8 < recursionLimit → un + 64 < cLine →
    (∀ r tl h' tk', R r tl → Fr h₀ L h' m → News h₀ L h' (tl ++ news) → Q r { s with heap := h', toks := tk' }) →
      wpAny (model PySem.Challenge.rw_wn0018_01.row.prog w) (ktrTop dp un gd cn cs L a ccd cl outer) (call (.ref f) vs) Q E s
local macro_rules | `(tactic| walk_at "call ref") => `(tactic| (k_here; k_dflt (refine' C_strcoll _ _ _ _ _ _ _ _ _ _ _ _ _ _ _ _ _ _ _ _ _ _ _ _ _ _ ?k1 ?k2 ?k3 ?k4 ?k5 ?kK ?kd ?ku ?kR; (case k1 => k_asm); (case k2 => k_asm); (case k3 => k_asm); (case k4 => k_asm); (case k5 => k_asm); (case kK => first | exact rfl | assumption); (case kd => ktr_room); (case ku => ktr_units)); intro r9 tl9 h9 tk9 hR9 F9 N9; obtain ⟨hE9, t9, hV9⟩ := hR9; subst hE9; subst hV9; (try simp only [List.nil_append] at N9); (try dsimp only)))
/-- what _strcoll says -/
noncomputable def cmpS (a b : Str) : Int := b2i (decide (b.cps.toList < a.cps.toList)) - b2i (decide (a.cps.toList < b.cps.toList))
/-- u put into the line, behind those that are no greater -/
noncomputable def ins (xs : List Str) (line : List Int) (u : Int) : List Int :=
  line.takeWhile (fun k => decide (cmpS (xs.getD k.toNat Str.empty) (xs.getD u.toNat Str.empty) < 1)) ++ u :: line.dropWhile (fun k => decide (cmpS (xs.getD k.toNat Str.empty) (xs.getD u.toNat Str.empty) < 1))
/-- the line of those behind g, the first i of them -/
noncomputable def lineN (xs : List Str) (g : Int) : Nat → List Int
  | 0 => []
  | i + 1 => ins xs (lineN xs g i) (g + 1 + (i : Int))
theorem ins_perm (xs : List Str) (line : List Int) (u : Int) : (ins xs line u).Perm (u :: line) := by
  unfold ins
  refine List.perm_middle.trans ?_
  rw [List.takeWhile_append_dropWhile]
theorem lineN_perm (xs : List Str) (g : Int) : ∀ i, (lineN xs g i).Perm ((List.range i).map fun j : Nat => g + 1 + (j : Int))
  | 0 => List.Perm.refl _
  | i + 1 => by
    refine (ins_perm _ _ _).trans ?_
    rw [List.range_succ, List.map_append]
    refine ((lineN_perm xs g i).cons _).trans ?_
    exact (List.perm_append_singleton _ _).symm
theorem lineN_len (xs : List Str) (g : Int) (i : Nat) : (lineN xs g i).length = i := by
  rw [(lineN_perm xs g i).length_eq]; simp
theorem lineN_mem {xs : List Str} {g : Int} {i : Nat} {k : Int} (h : k ∈ lineN xs g i) : g + 1 ≤ k ∧ k < g + 1 + i := by
  have := (lineN_perm xs g i).mem_iff.mp h
  obtain ⟨j, hj, rfl⟩ := List.mem_map.mp this
  have := List.mem_range.mp hj
  omega
theorem lineN_get {xs : List Str} {g : Int} {i : Nat} (h0 : 0 ≤ g) (h1 : g + 1 + i ≤ xs.length) (a : Nat) : 0 ≤ (lineN xs g i).getD a 0 ∧ (lineN xs g i).getD a 0 < (xs.length : Int) := by
  rw [List.getD_eq_getElem?_getD]
  cases e : (lineN xs g i)[a]? with
  | none => simp; omega
  | some k =>
    have := lineN_mem (List.mem_of_getElem? e)
    simp; omega
theorem tw_eq {p : Int → Bool} : ∀ (l : List Int) (a : Nat), (∀ j, j < a → p (l.getD j 0) = true) → a ≤ l.length → (a = l.length ∨ p (l.getD a 0) = false) → l.takeWhile p = l.take a ∧ l.dropWhile p = l.drop a
  | [], a, _, h, _ => by
    have : a = 0 := by simpa using h
    subst this
    exact ⟨rfl, rfl⟩
  | x :: r, 0, _, _, h => by
    have hx : p x = false := by
      rcases h with h | h
      · simp at h
      · simpa using h
    simp [List.takeWhile_cons, List.dropWhile_cons, hx]
  | x :: r, a + 1, h1, h2, h3 => by
    have hx : p x = true := by simpa using h1 0 (Nat.succ_pos _)
    have ih := tw_eq r a (fun j hj => by simpa using h1 (j + 1) (Nat.succ_lt_succ hj)) (by simpa using h2) (by simpa using h3)
    simp [List.takeWhile_cons, List.dropWhile_cons, hx, ih.1, ih.2]
theorem C_line (w : World) (mean : ExcName → Option Value) (mg mb : Str → Option Value) (news : List (Addr × Obj)) (l : Addr) (vs : List Value) (nn : Nat) (xs : List Str) (g : Int) (tg : Tok) (hi : StrsAre vs xs) (hlen : xs.length ≤ 6) (hg : 0 ≤ g ∧ g < xs.length) :
  CC2 w mean mg mb 88 ((l, listOf vs.toArray nn) :: news) [.ref l, .int g tg] (fun r tl => ∃ D ws k, r = .ref D ∧ tl = [(D, listOf (List.toArray ws) k)] ∧ IntsAre ws (lineN xs g ((xs.length : Int) - (g + 1)).toNat) ∧ ∀ p ∈ (l, listOf vs.toArray nn) :: news, p.1 < D) := by
  w_on
  unfold CC2; k_fill
  intro dp un gd cn cs a ccd cl outer A₀ base h₀ L m s Q E B F X N T hk hdp hun hret
  refine wpAny_call ?_
  k_dflt (refine' code_def ?k1 ?k2 ?k3 ?k4 ?k5 ?kA ?kF ?kK ?k6 ?k7 ?k8 ?k9 ?kB ?_ ?c2 ?c3 ?c4 ?c5; (case kA => exact rfl); (case kF => exact rfl); (case kK => assumption); (case k1 => k_asm); (case k2 => k_asm); (case k3 => k_asm); (case k4 => k_asm); (case k5 => k_asm); (case k6 => k_is); (case k7 => k_is); (case k8 => ktr_room); (case k9 => exact BindsTo.of_eq rfl); (case c5 => decide); (case kB => exact locs rfl); (case c2 => exact rfl); (case c3 => exact rfl); (case c4 => exact rfl); k_whole; intro g' L' h' FG' F' N' B' X' T'; (try dsimp only); (try k_lift B'); (try k_fold))
  obtain ⟨m9, F9⟩ : ∃ m9 : Str → Option Value, Fr g' L' h' (fun k => if k = Str.ofString "mails" then some (.ref l) else if k = Str.ofString "guest" then some (.int g tg) else m9 k) := ⟨_, Fr_ex2 F' (by rfl) (by rfl)⟩
  clear F'
  repeat' ((fail_if_success (with_reducible show wpAny _ _ (exec (Stmt.For _ _ _ _ _) _) _ _ _)); first | (k_unfold; (try dsimp only)) | (k_end; wrow_close) | walk1 | (dsimp only; walk1) | (leave1; walk_say "STEP leave1"; try dsimp only) | fail "no step")
  rename_i D hh0 l11 hh1 F2 N2
  refine ForR (h₀ := g') rfl ?_
  k_steps
  refine ⟨_, _, _, _, _, _, ((xs.length : Int) - (g + 1)).toNat, _, _, fun i m nw => ∃ ws k, nw = ((D, listOf (List.toArray ws) k) :: (l, listOf vs.toArray nn) :: news) ∧ IntsAre ws (lineN xs g i) ∧ m (Str.ofString "line") = some (.ref D) ∧ m (Str.ofString "mails") = some (.ref l), rfl, by assumption, small_one (by omega) (by omega) (by omega) (by omega), rangeSize_nat _ _, by assumption, by assumption, ⟨[], 0, rfl, .nil, by rfl, by rfl⟩, ?_, ?_⟩
  · rintro i m₁ nw I oI hh tk9 t9 hi9 ⟨ws, k9, rfl, hws, hm9, hm8⟩ F9 N9 hI9 hLI
    replace F9 : Fr g' L' hh _ := Fr_ex2 F9 hm9 hm8
    replace N9 : News g' L' hh ((I, oI) :: (D, listOf (List.toArray ws) k9) :: (l, listOf vs.toArray nn) :: news) := N9
    have hDI : D ≠ I := hI9 _ (.head _)
    have hlI : l ≠ I := hI9 _ (.tail _ (.head _))
    have hnI : ∀ p ∈ news, p.1 ≠ I := fun p hp => hI9 p (.tail _ (.tail _ hp))
    have hwl := lineN_len xs g i
    have hle : g + 1 + (i : Int) < xs.length := by omega
    repeat' ((fail_if_success (with_reducible show wpAny _ _ (exec (Stmt.While _ _ _ _) _) _ _ _)); first | (k_unfold; (try dsimp only)) | (k_end; wrow_close) | walk1 | (dsimp only; walk1) | (leave1; walk_say "STEP leave1"; try dsimp only) | fail "no step")
    (with_reducible rename Fr _ _ _ _ => F8); (with_reducible rename News _ _ _ _ => N8)
    refine While_inv (n₀ := i) (fun n m₂ nw => ((I, oI) :: (D, listOf (List.toArray ws) k9) :: (l, listOf vs.toArray nn) :: news) = nw ∧ ∃ (a : Nat) (t1 tu : Tok), n = i - a ∧ a ≤ i ∧ m₂ (Str.ofString "at") = some (.int a t1) ∧ m₂ (Str.ofString "line") = some (.ref D) ∧ m₂ (Str.ofString "mails") = some (.ref l) ∧ m₂ (Str.ofString "u") = some (.int (g + 1 + (i : Int)) tu) ∧ ∀ j, j < a → cmpS (xs.getD ((lineN xs g i).getD j 0).toNat Str.empty) (xs.getD (g + 1 + (i : Int)).toNat Str.empty) < 1) F8 N8 ⟨rfl, 0, _, _, rfl, Nat.zero_le _, by rfl, by rfl, by rfl, by rfl, fun j h => absurd h (Nat.not_lt_zero _)⟩ ?_
    clear F8 N8
    rintro n m₂ news₂ h₂ tk₂ F₂ N₂ ⟨rfl, a9, t4, t5, hn, hai, hat, hli, hma, hu, hall⟩
    replace F₂ := Fr_ex4 F₂ hat hli hma hu
    have hbd := lineN_get (xs := xs) (g := g) (i := i) hg.1 (by omega) a9
    have hbd2 : 0 ≤ (lineN xs g i).getD ((a9 : Int)).toNat 0 ∧ (lineN xs g i).getD ((a9 : Int)).toNat 0 < (xs.length : Int) := hbd
    have hnD : ∀ p ∈ news, p.1 ≠ D := fun p hp => Nat.ne_of_lt (ktn_ltOf l11.2 p hp)
    have hlD : l ≠ D := Nat.ne_of_lt l11.1
    have hID : I ≠ D := Ne.symm hDI
    k_steps
    · rename (@LT.lt Int _ _ _) => hcmp
      exact WhileStep.intro (n' := i - (a9 + 1)) (by k_asm) (by k_asm) (by omega) ⟨rfl, a9 + 1, _, _, rfl, by omega, by (have e : (a9 : Int) + 1 = ((a9 + 1 : Nat) : Int) := by omega); rw [← e]; rfl, by rfl, by rfl, by rfl, fun j hj => by
        by_cases e : j < a9
        · exact hall j e
        · have e' : j = a9 := by omega
          subst e'
          exact hcmp⟩
    all_goals (
      have hend : a9 = (lineN xs g i).length ∨ decide (cmpS (xs.getD ((lineN xs g i).getD a9 0).toNat Str.empty) (xs.getD (g + 1 + (i : Int)).toNat Str.empty) < 1) = false := by
        first
          | (left; omega)
          | (right; rename ¬ (@LT.lt Int _ _ _) => hcmp; exact decide_eq_false hcmp)
      obtain ⟨ht1, ht2⟩ := tw_eq (p := fun k : Int => decide (cmpS (xs.getD k.toNat Str.empty) (xs.getD (g + 1 + (i : Int)).toNat Str.empty) < 1)) (lineN xs g i) a9 (fun j hj => decide_eq_true (hall j hj)) (by omega) hend
      have hins : ins xs (lineN xs g i) (g + 1 + (i : Int)) = (lineN xs g i).take a9 ++ (g + 1 + (i : Int)) :: (lineN xs g i).drop a9 := by
        unfold ins
        rw [ht1, ht2]
      have hwsl : ws.length = (lineN xs g i).length := hws.length
      (with_reducible rename Fr _ _ _ _ => F8); (with_reducible rename News _ _ _ _ => N8)
      refine kl_insert (D := D) (its := List.toArray ws) (n := k9) (l := ws.take a9 ++ Value.int (g + 1 + (i : Int)) t5 :: ws.drop a9) F8 N8 (by simp [Builtin.List.listFitsIndex]; omega) (by unfold kl_ins; rw [if_neg (by omega)]; (have e9 : min ((a9 : Int)).toNat ws.length = a9 := by omega); rw [e9]) (by k_upd) (by simp; rw [sizeLine_eq]; omega) ?_
      intro h8 F7 N7
      dsimp only
      k_steps
      exact TurnEnd.next (news₂ := (D, listOf (List.toArray (ws.take a9 ++ Value.int (g + 1 + (i : Int)) t5 :: ws.drop a9)) (k9 + 1)) :: (l, listOf vs.toArray nn) :: news) F7 N7 (fun p hp => by
          rcases List.mem_cons.mp hp with rfl | hp
          · exact hDI
          · exact hI9 p (.tail _ hp)) ⟨_, _, rfl, by
            show IntsAre _ (ins xs (lineN xs g i) (g + 1 + (i : Int)))
            rw [hins]
            exact (hws.take a9).append (.cons _ _ (hws.drop a9)), by rfl, by rfl⟩)
  · rintro m₁ nw hh tk9 ⟨ws, k9, rfl, hws, hm9, hm8⟩ F9 N9
    replace F9 : Fr g' L' hh _ := Fr_ex2 F9 hm9 hm8
    replace N9 : News g' L' hh ((D, listOf (List.toArray ws) k9) :: (l, listOf vs.toArray nn) :: news) := N9
    dsimp only
    k_steps
    all_goals ((with_reducible rename Fr _ _ _ _ => kF9); (with_reducible rename News _ _ _ _ => kN9))
    all_goals exact hret _ [(D, listOf (List.toArray ws) k9)] _ _ ⟨D, ws, k9, rfl, rfl, hws, fun p hp => by
      rcases List.mem_cons.mp hp with rfl | hp
      · exact l11.1
      · exact ktn_ltOf l11.2 p hp⟩ kF9 kN9
end Mine
end
section
open PySem PySem.W PyProof.Rows
set_option maxRecDepth 100000
set_option maxHeartbeats 8000000
namespace Mine
theorem C_letters (w : World) (mean : ExcName → Option Value) (mg mb : Str → Option Value) (news : List (Addr × Obj)) (b : Int) (tb : Tok) (hb : 0 ≤ b ∧ b < 64) :
  CC w mean mg mb 100 news [.int b tb] (fun r tl => tl = [] ∧ ∃ t, r = .str (Txt.lstripChars (Txt.item (Str.ofString "ABCDEFGHIJKLMNOP") (b.fdiv 16) ++ Txt.item (Str.ofString "ABCDEFGHIJKLMNOP") (b.fmod 16)) (Str.ofString "A")) t) := by
  w_on
  unfold CC; k_fill
  intro dp un gd cn cs a ccd cl outer A₀ base h₀ L m s Q E B F X N T hk hdp hun hret
  refine wpAny_call ?_
  k_dflt (refine' code_def ?k1 ?k2 ?k3 ?k4 ?k5 ?kA ?kF ?kK ?k6 ?k7 ?k8 ?k9 ?kB ?_ ?c2 ?c3 ?c4 ?c5; (case kA => exact rfl); (case kF => exact rfl); (case kK => assumption); (case k1 => k_asm); (case k2 => k_asm); (case k3 => k_asm); (case k4 => k_asm); (case k5 => k_asm); (case k6 => k_is); (case k7 => k_is); (case k8 => ktr_room); (case k9 => exact BindsTo.of_eq rfl); (case c5 => decide); (case kB => exact locs rfl); (case c2 => exact rfl); (case c3 => exact rfl); (case c4 => exact rfl); k_whole; intro g' L' h' FG' F' N' B' X' T'; (try dsimp only); (try k_lift B'); (try k_fold))
  k_steps
  all_goals exact hret _ [] _ _ ⟨rfl, _, rfl⟩ (by k_asm) (by k_asm)
end Mine
end
section
open PySem PySem.W PyProof.Rows
set_option maxRecDepth 100000
set_option maxHeartbeats 8000000
namespace Mine
theorem C_locn (w : World) (mean : ExcName → Option Value) (mg mb : Str → Option Value) (news : List (Addr × Obj)) (l : Addr) (nn : Nat) (x y : Str) (tx ty : Tok) (hx : x.length ≤ 100) (hy : y.length ≤ 100) :
  CC w mean mg mb 52 ((l, ({ cls := .type "tuple", data := .seq #[.str x tx, .str y ty] nn } : Obj)) :: news) [.ref l] (fun r tl => tl = [] ∧ ∃ t, r = .str (x ++ Str.ofString "." ++ y) t) := by
  w_on
  unfold CC; k_fill
  intro dp un gd cn cs a ccd cl outer A₀ base h₀ L m s Q E B F X N T hk hdp hun hret
  refine wpAny_call ?_
  k_dflt (refine' code_def ?k1 ?k2 ?k3 ?k4 ?k5 ?kA ?kF ?kK ?k6 ?k7 ?k8 ?k9 ?kB ?_ ?c2 ?c3 ?c4 ?c5; (case kA => exact rfl); (case kF => exact rfl); (case kK => assumption); (case k1 => k_asm); (case k2 => k_asm); (case k3 => k_asm); (case k4 => k_asm); (case k5 => k_asm); (case k6 => k_is); (case k7 => k_is); (case k8 => ktr_room); (case k9 => exact BindsTo.of_eq rfl); (case c5 => decide); (case kB => exact locs rfl); (case c2 => exact rfl); (case c3 => exact rfl); (case c4 => exact rfl); k_whole; intro g' L' h' FG' F' N' B' X' T'; (try dsimp only); (try k_lift B'); (try k_fold))
  k_steps
  all_goals exact hret _ [] _ _ ⟨rfl, _, rfl⟩ (by k_asm) (by k_asm)
end Mine
end
section
open PySem PySem.W PyProof.Rows
set_option maxRecDepth 100000
set_option maxHeartbeats 8000000
namespace Mine
theorem C_strip (w : World) (mean : ExcName → Option Value) (mg mb : Str → Option Value) (news : List (Addr × Obj)) (x : Str) (tx : Tok) (b : Int) (tb : Tok) (l r : Nat) (c : List Nat) (hb : 0 ≤ b) (P : Pad x l c r) (hlen : x.length ≤ 100) :
  CC w mean mg mb 45 news [.str x tx, .int b tb] (fun v tl => tl = [] ∧ ∃ t y, v = .str y t ∧ y.cps.toList = List.replicate (l - min l b.toNat) 32 ++ c ++ List.replicate (r - min r (b.toNat - min l b.toNat)) 32) := by
  w_on
  unfold CC; k_fill
  intro dp un gd cn cs a ccd cl outer A₀ base h₀ L m s Q E B F X N T hk hdp hun hret
  refine wpAny_call ?_
  k_dflt cell_enter
  repeat' ((fail_if_success (with_reducible show wpAny _ _ (exec (Stmt.While _ _ _ _) _) _ _ _)); first | (k_unfold; (try dsimp only)) | (k_end; wrow_close) | walk1 | (dsimp only; walk1) | (leave1; walk_say "STEP leave1"; try dsimp only) | fail "no step")
  rename_i F9 N9
  refine While_inv (n₀ := b.toNat) (fun n m₁ nw => news = nw ∧ ∃ (i : Nat) (t1 t2 : Tok), n = (b - i).toNat ∧ (i : Int) ≤ b ∧ i ≤ l ∧ m₁ (Str.ofString "s") = some (.str x tx) ∧ m₁ (Str.ofString "amount") = some (.int (b - i) t1) ∧ m₁ (Str.ofString "lpos") = some (.int i t2)) F9 N9 ⟨rfl, 0, _, _, by simp, hb, Nat.zero_le _, by rfl, by exact congrArg some (congrArg (Value.int · tb) (by simp)), by rfl⟩ ?_
  rintro n m₁ news₁ h₁ tk₁ F₁ N₁ ⟨rfl, i, t1, t2, hn, hib, hil, hs1, ha1, hl1⟩
  replace F₁ := Fr_ex3 F₁ hs1 ha1 hl1
  clear F9 N9
  have hPl := P.len
  have hPp := P.pos
  have hlt : (i : Int) < (x.length : Int) := by omega
  have hit := P.left hil
  repeat' ((fail_if_success (with_reducible show wpAny _ _ (exec (Stmt.While _ _ _ _) _) _ _ _)); first | (k_unfold; (try dsimp only)) | (k_end; wrow_close) | walk1 | (dsimp only; walk1) | (leave1; walk_say "STEP leave1"; try dsimp only) | fail "no step")
  · simp only [hit, decide_eq_true_eq] at *
    exact WhileStep.intro (n' := (b - ((i+1 : Nat) : Int)).toNat) (by k_asm) (by k_asm) (by omega) ⟨rfl, i + 1, _, _, rfl, by omega, by omega, by rfl, by (have e : b - (i:Int) - 1 = b - ((i+1 : Nat) : Int) := by omega); rw [← e]; rfl, by (have e : (i:Int) + 1 = ((i+1 : Nat) : Int) := by omega); rw [← e]; rfl⟩
  all_goals (
    have him : i = min l b.toNat := by first | omega | (simp only [hit, decide_eq_false_iff_not] at *; omega)
    (with_reducible rename Fr _ _ _ _ => F9); (with_reducible rename News _ _ _ _ => N9)
    refine While_inv (n₀ := (b - i).toNat) (fun n m₁ nw => news = nw ∧ ∃ (j : Nat) (t1 t2 t3 : Tok), n = (b - i - j).toNat ∧ (j : Int) ≤ b - i ∧ j ≤ r ∧ m₁ (Str.ofString "s") = some (.str x tx) ∧ m₁ (Str.ofString "amount") = some (.int (b - i - j) t1) ∧ m₁ (Str.ofString "lpos") = some (.int i t2) ∧ m₁ (Str.ofString "rpos") = some (.int ((x.length : Int) - 1 - j) t3)) F9 N9 ⟨rfl, 0, _, _, _, by simp, by omega, Nat.zero_le _, by rfl, by (have e : b - (i : Int) - ((0 : Nat) : Int) = b - i := by omega); rw [e]; rfl, by rfl, by (have e : (x.length : Int) - 1 - ((0 : Nat) : Int) = x.length - 1 := by omega); rw [e]; rfl⟩ ?_
    clear F9 N9
    rintro n m₂ news₂ h₂ tk₂ F₂ N₂ ⟨rfl, j, t4, t5, t6, hn, hjb, hjr, hs2, ha2, hl2, hr2⟩
    replace F₂ := Fr_ex4 F₂ hs2 ha2 hl2 hr2
    have hjt := P.right hjr
    have hlt2 : 0 ≤ (x.length : Int) - 1 - j ∧ (x.length : Int) - 1 - j < (x.length : Int) := by omega
    clear hit
    k_steps
    all_goals (first
      | (simp only [hjt, decide_eq_true_eq] at *
         exact WhileStep.intro (n' := (b - i - ((j+1 : Nat) : Int)).toNat) (by k_asm) (by k_asm) (by omega) ⟨rfl, j + 1, _, _, _, rfl, by omega, by omega, by rfl, by (have e : b - (i:Int) - (j : Int) - 1 = b - i - ((j+1 : Nat) : Int) := by omega); rw [← e]; rfl, by rfl, by (have e : (x.length : Int) - 1 - j - 1 = x.length - 1 - ((j+1 : Nat) : Int) := by omega); rw [← e]; rfl⟩)
      | ((try dsimp only)
         have hjm : j = min r (b.toNat - i) := by first | omega | (simp only [hjt, decide_eq_false_iff_not] at *; omega)
         exact hret _ [] _ _ ⟨rfl, _, _, rfl, by rw [P.slice hil hjr, hjm, him]⟩ (by k_asm) (by k_asm))))
end Mine
end
section
open PySem PySem.W PyProof.Rows
set_option maxRecDepth 100000
set_option maxHeartbeats 8000000
namespace Mine
noncomputable def apS : List Int := [65, 66, 67, 68, 69, 70, 71, 72, 73, 74, 75, 76, 77, 78, 79, 80]
noncomputable def apL (x : Nat) : List Int := if x = 0 then [] else if x < 16 then [65 + (x : Int)] else [65 + ((x / 16 : Nat) : Int), 65 + ((x % 16 : Nat) : Int)]
theorem ap_step : ∀ n : Nat, n < 64 → n ≠ 0 → (List.take (clipAt apS.length ((n : Int).fmod 16 + 1) - clipAt apS.length ((n : Int).fmod 16)) (List.drop (clipAt apS.length ((n : Int).fmod 16)) apS)).length ≤ 1 ∧
    apL (n / 16) ++ List.take (clipAt apS.length ((n : Int).fmod 16 + 1) - clipAt apS.length ((n : Int).fmod 16)) (List.drop (clipAt apS.length ((n : Int).fmod 16)) apS) = apL n := by decide
theorem C_int2ap (w : World) (mean : ExcName → Option Value) (mg mb : Str → Option Value) (news : List (Addr × Obj)) (b : Int) (tb : Tok) (hb : 0 ≤ b ∧ b < 64) :
  CC w mean mg mb 59 news [.int b tb] (fun r tl => tl = [] ∧ ∃ t v, r = .bytes v t ∧ KBw.bInts v = apL b.toNat) := by
  w_on
  unfold CC; k_fill
  intro dp un gd cn cs a ccd cl outer A₀ base h₀ L m s Q E B F X N T hk hdp hun hret
  refine wpAny_call ?_
  k_dflt cell_enter
  repeat' ((fail_if_success (with_reducible show wpAny _ _ (exec (Stmt.While _ _ _ _) _) _ _ _)); first | (k_unfold; (try dsimp only)) | (k_end; wrow_close) | walk1 | (dsimp only; walk1) | (leave1; walk_say "STEP leave1"; try dsimp only) | fail "no step")
  (with_reducible rename Fr _ _ _ _ => F9); (with_reducible rename News _ _ _ _ => N9)
  have hb9 : (if b < 0 then -b else b) = ((b.toNat : Nat) : Int) := by split <;> omega
  refine While_inv (n₀ := b.toNat) (fun n m₁ nw => news = nw ∧ ∃ (t1 t2 t3 : Tok) (a v : Array UInt8) (zs : List Int), n < 64 ∧ m₁ (Str.ofString "num") = some (.int n t1) ∧ m₁ (Str.ofString "AP") = some (.bytes a t2) ∧ m₁ (Str.ofString "val") = some (.bytes v t3) ∧ zs.length ≤ 64 - n ∧ KBw.bInts a = apS ∧ KBw.bInts v = zs ∧ apL n ++ zs = apL b.toNat) F9 N9 ⟨rfl, _, _, _, #[65, 66, 67, 68, 69, 70, 71, 72, 73, 74, 75, 76, 77, 78, 79, 80], #[], [], by omega, by rw [← hb9]; rfl, by rfl, by rfl, by simp, by rfl, by rfl, by simp⟩ ?_
  clear F9 N9 hb9
  rintro n m₁ news₁ h₁ tk₁ F₁ N₁ ⟨rfl, t1, t2, t3, a9, v, zs, hn, hs1, ha1, hl1, hvs, hA, hV, hv⟩
  replace F₁ := Fr_ex3 F₁ hs1 ha1 hl1
  have hap : apS.length ≤ 16 := by decide
  k_steps
  · (with_reducible rename Fr _ _ _ _ => F9); (with_reducible rename News _ _ _ _ => N9)
    have hn0 : n ≠ 0 := by omega
    (with_reducible rename KBw.bInts (_ ++ _) = _ => hap9)
    obtain ⟨hz, hs⟩ := ap_step n hn hn0
    have e9 : ((n : Int).fdiv 16) = ((n / 16 : Nat) : Int) := by rw [Int.fdiv_eq_ediv_of_nonneg _ (by decide)]; omega
    exact WhileStep.intro (n' := n / 16) F9 (fun p hp => N9 p (.tail _ hp)) (by omega) ⟨rfl, _, _, _, a9, _, _, by omega, by rw [← e9]; rfl, by rfl, by rfl, by (rw [List.length_append]; omega), hA, hap9, by rw [← List.append_assoc, hs]; exact hv⟩
  · have hn0 : n = 0 := by omega
    subst hn0
    exact hret _ [] _ _ ⟨rfl, _, _, rfl, hV.trans hv⟩ (by k_asm) (by k_asm)
end Mine
end
section
open PySem PySem.W PyProof.Rows
set_option maxRecDepth 100000
set_option maxHeartbeats 8000000
namespace Mine
local macro_rules | `(tactic| walk_at "call builtin:list.count") => `(tactic| (k_here; (refine count_list_ints (by is_list) (by assumption) ?_)))
noncomputable def knL (b : Int) : List Int := List.map (fun k' : Int => (b.fdiv (2 ^ k'.toNat)).fmod 2) (rangeKs 0 ((6 : Int) - 0).toNat)
noncomputable def mailF (wish : Int) (e : Str) (b sv : Int) : Str :=
  Txt.mul (Str.ofString " ") (wish - (knL b).sum) ++ Str.ofString "K" ++ (if ((List.count 0 (List.take sv.toNat (knL b)) : Nat) : Int) = 0 then e else Str.ofString "\x0d\n") ++ Txt.mul (Str.ofString ".") (1 + ((List.count 0 (List.take sv.toNat (knL b)) : Nat) : Int))
theorem kn_sum (b : Int) : 0 ≤ (List.map (fun k' : Int => (b.fdiv (2 ^ k'.toNat)).fmod 2) (rangeKs 0 ((6 : Int) - 0).toNat)).sum ∧ (List.map (fun k' : Int => (b.fdiv (2 ^ k'.toNat)).fmod 2) (rangeKs 0 ((6 : Int) - 0).toNat)).sum ≤ 6 := by
  have h : ∀ l : List Int, 0 ≤ (List.map (fun k' : Int => (b.fdiv (2 ^ k'.toNat)).fmod 2) l).sum ∧ (List.map (fun k' : Int => (b.fdiv (2 ^ k'.toNat)).fmod 2) l).sum ≤ l.length := by
    intro l
    induction l with
    | nil => simp
    | cons a r ih =>
      rw [List.map_cons, List.sum_cons, List.length_cons]
      have := Int.fmod_nonneg_of_pos (b.fdiv (2 ^ a.toNat)) (b := 2) (by decide)
      have := Int.fmod_lt_of_pos (b.fdiv (2 ^ a.toNat)) (b := 2) (by decide)
      omega
  have := h (rangeKs 0 ((6 : Int) - 0).toNat)
  rw [rangeKs_length] at this
  exact ⟨this.1, by omega⟩
theorem kn_count (b : Int) (n : Nat) : List.count 0 (List.take n (List.map (fun k' : Int => (b.fdiv (2 ^ k'.toNat)).fmod 2) (rangeKs 0 ((6 : Int) - 0).toNat))) ≤ 6 := by
  refine Nat.le_trans List.count_le_length ?_
  rw [List.length_take, List.length_map, rangeKs_length]
  omega
theorem C_mail (w : World) (mean : ExcName → Option Value) (mg mb : Str → Option Value) (news : List (Addr × Obj)) (wish : Int) (tw : Tok) (e : Str) (te : Tok) (b : Int) (tb : Tok) (sv : Int) (tsv : Tok) (hw : 0 ≤ wish ∧ wish ≤ 5) (hb : 0 ≤ b ∧ b < 64) (hs : 0 ≤ sv ∧ sv ≤ 6) (he : e.length ≤ 2) :
  CC w mean mg mb 93 news [.int wish tw, .str e te, .int b tb, .int sv tsv] (fun r tl => tl = [] ∧ ∃ t, r = .str (mailF wish e b sv) t) := by
  w_on
  unfold CC; k_fill
  intro dp un gd cn cs a ccd cl outer A₀ base h₀ L m s Q E B F X N T hk hdp hun hret
  refine wpAny_call ?_
  k_dflt (refine' code_defC ?k1 ?k2 ?k3 ?k4 ?k5 ?kA ?kF ?kK ?k6 ?k7 ?k8 ?k9 ?kB ?kD ?_ ?c2 ?c3 ?c4; (case kA => exact rfl); (case kF => exact rfl); (case kK => assumption); (case k1 => k_asm); (case k2 => k_asm); (case k3 => k_asm); (case k4 => k_asm); (case k5 => k_asm); (case k6 => k_is); (case k7 => k_is); (case k8 => ktr_room); (case k9 => exact BindsTo.of_eq rfl); (case kB => exact rfl); (case kD => decide +kernel); (case c2 => exact rfl); (case c3 => exact rfl); (case c4 => exact rfl); k_whole; intro g' L' h' tk' cells' FG' F' N' Y' B' X' T' l1; (try k_lt l1); k_cells Y'; (try simp only [List.cons_append, List.nil_append] at N'); (try dsimp only); (try k_lift B'); (try k_fold))
  obtain ⟨m9, F9⟩ : ∃ m9 : Str → Option Value, Fr g' L' h' (fun k => if k = Str.ofString "wish" then some (.int wish tw) else if k = Str.ofString "edge" then some (.str e te) else if k = Str.ofString "served" then some (.int sv tsv) else m9 k) := ⟨_, Fr_ex3 F' (by rfl) (by rfl) (by rfl)⟩
  clear F'
  have hk9 := kn_sum b
  have hk8 := kn_count b sv.toNat
  k_steps
  all_goals ((with_reducible rename Fr _ _ _ _ => kF9); (with_reducible rename News _ _ _ _ => kN9))
  all_goals exact hret _ [] _ _ ⟨rfl, _, congrArg (Value.str · _) (by unfold mailF knL; first | rw [if_pos (by assumption)] | rw [if_neg (by assumption)])⟩ kF9 (fun p hp => kN9 p (by first | exact hp | exact .tail _ hp | exact .tail _ (.tail _ hp) | exact .tail _ (.tail _ (.tail _ hp)) | exact .tail _ (.tail _ (.tail _ (.tail _ hp))) | exact .tail _ (.tail _ (.tail _ (.tail _ (.tail _ hp)))) | exact .tail _ (.tail _ (.tail _ (.tail _ (.tail _ (.tail _ hp)))))))
end Mine
end
section
open PySem PySem.W PyProof.Rows
set_option maxRecDepth 100000
set_option maxHeartbeats 8000000
namespace Mine
local macro_rules | `(tactic| walk_at "mine none") => `(tactic| skip)
local macro_rules | `(tactic| walk_at "subscriptTail Name Slice ref ref") => `(tactic| (k_here; (with_reducible show wpAny _ _ (subscriptTail _ (PySem.Expr.Slice _ _ none _) (Value.ref _) (Value.ref _)) _ _ _); (try dsimp only); k_dflt (refine' kmk_slice_ints (s := ⟨_, _, _, _, _⟩) ?F ?N ?l ?p ?q ?i ?m ?c ?_ ?s ?t ?z; (case F => k_asm); (case N => k_asm); (case l => kmk_list); (case p => kmk_part); (case q => kmk_part); (case i => first | assumption | l_ints); (case m => first | exact kmk_upto (by assumption) (by omega) | exact kmk_from (by assumption) (by omega) | kmk_nums); (case c => kmk_len); (case s => with_unfolding_all rfl); (case t => kmk_pure); (case z => kmk_size)); intro D' ws' h' F' N' l1 hI' hC' hL'; (try simp only [Int.reduceNeg, Int.neg_neg, Int.reduceToNat] at hI' hC' hL'); (try k_lt l1); (try k_sweep); (try dsimp only)))
local macro_rules | `(tactic| k_all) => `(tactic| assumption)
theorem pick3 {α : Type} {a b c : α} {r : List α} : ∀ p ∈ a :: c :: r, p ∈ a :: b :: c :: r := by
  intro p hp
  simp only [List.mem_cons] at hp ⊢
  rcases hp with h | h | h <;> simp [h]
/-- the k-th inequality -/
noncomputable def okB (d : List Int) (k : Nat) : Bool := decide ((d.take k).sum ≤ (k : Int) * ((k : Int) - 1) + ((d.drop k).map (fun x => if x < (k : Int) then x else (k : Int))).sum)
/-- what _law_granted answers, of the wishes put in falling order -/
noncomputable def gr (d : List Int) : Bool := (List.range d.length).all (fun j => okB d (j + 1)) && (d.sum.fmod 2 == 0)
theorem ok_of {d : List Int} {i : Nat} (h : ¬ (1 + (i : Int)) * (1 + (i : Int) - 1) + (List.map (fun x => if x < 1 + (i : Int) then x else 1 + (i : Int)) (List.drop (1 + (i : Int)).toNat d)).sum < (List.take (1 + (i : Int)).toNat d).sum) : okB d (i + 1) = true := by
  have e1 : (1 + (i : Int)).toNat = i + 1 := by omega
  have e2 : (1 + (i : Int)) = ((i + 1 : Nat) : Int) := by omega
  rw [e1, e2] at h
  exact decide_eq_true (Int.not_lt.mp h)
theorem gr_no {d : List Int} {i : Nat} (hi : i < d.length) (h : (1 + (i : Int)) * (1 + (i : Int) - 1) + (List.map (fun x => if x < 1 + (i : Int) then x else 1 + (i : Int)) (List.drop (1 + (i : Int)).toNat d)).sum < (List.take (1 + (i : Int)).toNat d).sum) : gr d = false := by
  have e1 : (1 + (i : Int)).toNat = i + 1 := by omega
  have e2 : (1 + (i : Int)) = ((i + 1 : Nat) : Int) := by omega
  rw [e1, e2] at h
  have : okB d (i + 1) = false := decide_eq_false (Int.not_le.mpr h)
  unfold gr
  rw [Bool.and_eq_false_iff]
  left
  rw [List.all_eq_false]
  exact ⟨i, List.mem_range.mpr hi, by simp [this]⟩
theorem gr_yes {d : List Int} (h : ∀ j, j < d.length → okB d (j + 1) = true) : gr d = (d.sum.fmod 2 == 0) := by
  have : (List.range d.length).all (fun j => okB d (j + 1)) = true := List.all_eq_true.mpr fun j hj => h j (List.mem_range.mp hj)
  unfold gr
  rw [this, Bool.true_and]
theorem C_granted (w : World) (mean : ExcName → Option Value) (mg mb : Str → Option Value) (news : List (Addr × Obj)) (l : Addr) (vs : List Value) (nn : Nat) (ns : List Int) (hi : IntsAre vs ns) (hlen : ns.length ≤ 6) (hb : ∀ x ∈ ns, 0 ≤ x ∧ x ≤ 6) :
  CC w mean mg mb 81 ((l, listOf vs.toArray nn) :: news) [.ref l] (fun r tl => tl = [] ∧ ∃ d : List Int, d.Perm ns ∧ d.Pairwise (fun x y => y ≤ x) ∧ r = .bool (gr d)) := by
  w_on
  unfold CC; k_fill
  intro dp un gd cn cs a ccd cl outer A₀ base h₀ L m s Q E B F X N T hk hdp hun hret
  refine wpAny_call ?_
  k_dflt (refine' code_defC ?k1 ?k2 ?k3 ?k4 ?k5 ?kA ?kF ?kK ?k6 ?k7 ?k8 ?k9 ?kB ?kD ?_ ?c2 ?c3 ?c4; (case kA => exact rfl); (case kF => exact rfl); (case kK => assumption); (case k1 => k_asm); (case k2 => k_asm); (case k3 => k_asm); (case k4 => k_asm); (case k5 => k_asm); (case k6 => k_is); (case k7 => k_is); (case k8 => ktr_room); (case k9 => exact BindsTo.of_eq rfl); (case kB => exact rfl); (case kD => decide +kernel); (case c2 => exact rfl); (case c3 => exact rfl); (case c4 => exact rfl); k_whole; intro g' L' h' tk' cells' FG' F' N' Y' B' X' T' l1; (try k_lt l1); k_cells Y'; (try simp only [List.cons_append, List.nil_append] at N'); (try dsimp only); (try k_lift B'); (try k_fold))
  obtain ⟨m9, F9⟩ : ∃ m9 : Str → Option Value, Fr g' L' h' (fun k => if k = Str.ofString "wishes" then some (.ref l) else m9 k) := ⟨_, Fr_ex1 F' (by rfl)⟩
  clear F'
  repeat' ((fail_if_success (with_reducible show wpAny _ _ (exec (Stmt.For _ _ _ _ _) _) _ _ _)); first | (k_unfold; (try dsimp only)) | (k_end; wrow_close) | walk1 | (dsimp only; walk1) | (leave1; walk_say "STEP leave1"; try dsimp only) | fail "no step")
  rename_i D1 v1 n1 c1 hh2 i1 e1 p1 o1 b1 p01 l11 D2 ws2 hh1 hI1 hC1 l12 hh0 F2 N2
  rename Obj.data _ = Data.cell _ => hcell
  obtain ⟨oc, cv, N3, hdc⟩ : ∃ oc cv, News g' L' hh0 ((D2, listOf ws2.toArray 0) :: (L'+1, oc) :: (l, listOf vs.toArray nn) :: news) ∧ oc.data = .cell cv := ⟨_, _, fun p hp => N2 p (pick3 p hp), hcell⟩
  have hD2 : D2 ≠ L' + 1 := Nat.ne_of_gt l12.2.1
  have hoff : ∀ p ∈ (l, listOf vs.toArray nn) :: news, p.1 ≠ L' + 1 := by
    intro p hp
    rcases List.mem_cons.mp hp with rfl | hp
    · exact Nat.ne_of_lt (Nat.lt_succ_of_lt l1.1)
    exact Nat.ne_of_lt (Nat.lt_succ_of_lt (ktn_ltOf l1.2 p hp))
  have hdP : (n1.reverse).Perm ns := (List.reverse_perm n1).trans p1
  have hdW : (n1.reverse).Pairwise (fun x y => y ≤ x) := List.pairwise_reverse.mpr o1
  generalize hd9 : n1.reverse = d at *
  clear N2 hcell
  refine ForR (h₀ := g') rfl ?_
  k_steps
  refine ⟨_, _, _, _, _, _, d.length, _, _, fun i m nw => ∃ oc cv, nw = ((D2, listOf ws2.toArray 0) :: (L'+1, oc) :: (l, listOf vs.toArray nn) :: news) ∧ oc.data = .cell cv ∧ m (Str.ofString "down") = some (.ref D2) ∧ ∀ j, j < i → okB d (j + 1) = true, rfl, by assumption, ?_, ?_, by assumption, by assumption, ⟨_, _, rfl, by assumption, by rfl, fun j h => absurd h (Nat.not_lt_zero _)⟩, ?_, ?_⟩
  · exact small_one (by omega) (by omega) (by omega) (by omega)
  · rw [rangeSize_nat]; omega
  · rintro i m₁ nw I oI hh tk9 t9 hi9 ⟨oc9, cv9, rfl, hoc9, hm9, hok⟩ F9 N9 hI9 hLI
    replace F9 : Fr g' L' hh _ := Fr_ex1 F9 hm9
    replace N9 : News g' L' hh ([(I, oI), (D2, listOf ws2.toArray 0)] ++ (L' + 1, oc9) :: (l, listOf vs.toArray nn) :: news) := N9
    have hDI : D2 ≠ I := hI9 _ (.head _)
    have hcI : L' + 1 ≠ I := hI9 _ (.tail _ (.head _))

    walk1
    refine stCell F9 N9 hoc9 (off2 (Ne.symm hcI) hD2) hoff ?_
    clear F9 N9 hoc9 hm9
    intro hh1 oc1 F8 N8 hoc8
    simp only [List.cons_append, List.nil_append] at N8
    repeat' ((fail_if_success (with_reducible show wpAny _ _ (eval (Expr.ListComp _ _ _ _) _) _ _ _)); first | (k_unfold; (try dsimp only)) | (k_end; wrow_close) | walk1 | (dsimp only; walk1) | (leave1; walk_say "STEP leave1"; try dsimp only) | fail "no step")
    dsimp only
    k_dflt (refine LCg.ListComp_U (F₀ := by k_asm) (by with_unfolding_all rfl) (by decide) (by rfl) (by decide) (by rfl) ?_)
    repeat' ((fail_if_success (with_reducible show LCg.CompSrc _ _ _ _ _ _ _ _ _ _ _ _ _ _)); first | (k_unfold; (try dsimp only)) | (k_end; wrow_close) | walk1 | (dsimp only; walk1) | (leave1; walk_say "STEP leave1"; try dsimp only) | fail "no step")
    refine LCg.CompSrc.ledger rfl (by k_asm) (by k_asm) (by k_mem) (by kmk_size) ?_
    intro g2
    (with_reducible rename IntsAre _ (List.drop _ _) => hI7)
    refine kcf_list (fun x => if x < 1 + (i : Int) then x else 1 + (i : Int)) hI7 (fun k' t' I' oI' C' oC' D' m' ys' h' tk' E' hk' hC' hx' F' N' off' ne' mk' => ?_) ?_
    · simp only [LCg.Off3, and_true] at off'
      k_steps
      all_goals exact ⟨rfl, _, rfl⟩
    · unfold KPfDone
      intro ys hys
      unfold LCg.FinE
      intro D' h' tk' F' N' o1'
      (try simp only [LCg.Off1, and_true] at o1')
      dsimp only
      k_steps
      all_goals ((with_reducible rename Fr _ _ _ _ => kF9); (with_reducible rename News _ _ _ _ => kN9))
      · rename (@LT.lt Int _ _ _) => hcmp
        dsimp only
        unfold TurnEnd
        dsimp only
        refine leaveK_ kF9 kN9 fun kF kN => ?_
        exact hret _ [] _ _ ⟨rfl, d, hdP, hdW, by rw [gr_no hi9 hcmp]⟩ kF (fun p hp => kN p (.tail _ (.tail _ (.tail _ (.tail _ (.tail _ (.tail _ hp)))))))
      · rename ¬ (@LT.lt Int _ _ _) => hcmp
        have hI8 : ∀ p ∈ (D2, listOf ws2.toArray 0) :: (L' + 1, oc1) :: (l, listOf vs.toArray nn) :: news, p.1 ≠ I := by
          intro p hp
          rcases List.mem_cons.mp hp with rfl | hp
          · exact hDI
          · rcases List.mem_cons.mp hp with rfl | hp
            · exact hcI
            · exact hI9 p (.tail _ (.tail _ hp))
        exact TurnEnd.next (news₂ := (D2, listOf ws2.toArray 0) :: (L' + 1, oc1) :: (l, listOf vs.toArray nn) :: news) kF9 (fun p hp => kN9 p (.tail _ (.tail _ (.tail _ hp)))) hI8 ⟨_, _, rfl, hoc8, by rfl, fun j hj => by
          by_cases e : j < i
          · exact hok j e
          · have e' : j = i := by omega
            subst e'
            exact ok_of hcmp⟩
  · rintro m₁ nw hh tk9 ⟨oc9, cv9, rfl, hoc9, hm9, hok⟩ F9 N9
    replace F9 : Fr g' L' hh _ := Fr_ex1 F9 hm9
    replace N9 : News g' L' hh ((D2, listOf ws2.toArray 0) :: (L' + 1, oc9) :: (l, listOf vs.toArray nn) :: news) := N9
    dsimp only
    k_steps
    all_goals ((with_reducible rename Fr _ _ _ _ => kF9); (with_reducible rename News _ _ _ _ => kN9))
    all_goals exact hret _ [] _ _ ⟨rfl, d, hdP, hdW, by rw [gr_yes hok]⟩ kF9 (fun p hp => kN9 p (.tail _ (.tail _ hp)))
end Mine
end
section
open PySem PySem.W PyProof.Rows PySem.Calls
set_option maxRecDepth 100000
namespace Mine
theorem slot_pat_sub : Slot "re.Pattern" "sub" "re.Pattern.sub" :=
  .of (owner := "re.Pattern") (n := "sub") (by rw [typeLookup_type, builtinLookup_eq_fast]; kernel_rfl) (by decide +kernel) (by decide +kernel) (by decide +kernel)
    (by first | exact .inl (by decide +kernel) | exact .inr (by decide +kernel)) (by rw [isSubtype_type]; kernel_rfl)
theorem type_pat_sub : typeOf (.builtin "re.Pattern.sub") = pure (.type "method_descriptor") := by show builtinType _ = _; rw [builtinType_eq_fast]; kernel_rfl
theorem entry_pat_sub : entryFor table "re.Pattern.sub" = some Builtin.«re.Pattern.sub» := entryFor_of_tree (by kernel_rfl)
theorem entry_pat_subloop : entryFor table "re.Pattern.sub.loop" = some Builtin.«re.Pattern.sub.loop» := entryFor_of_tree (by kernel_rfl)
end Mine
end
section
open PySem PySem.W PyProof.Rows PySem.Calls
set_option maxRecDepth 100000
set_option maxHeartbeats 4000000
namespace Mine
noncomputable def patO (v0 v1 v4 : Value) (ca : Addr) : Obj := { cls := .type "re.Pattern", data := .fields #[v0, v1, .int 0 0, .none, v4, .ref ca, .int 0 0] }
noncomputable def target (pa : Addr) (its : Array Value) (x : Str) (tx : Tok) : Builtin.Re.ReTarget := { pattern := .ref pa, string := .str x tx, code := (its.map Builtin.Re.reRawOf).map (·.toNat), text := x.cps, kind := 0, groups := 0, pos := 0, lim := x.cps.size }
section
variable {prog : Program} {w : World} {A : Around} {E : Value → Shared → Prop} {hp : Heap} {g : Array GenState} {d : Drawn} {tk : Nat} {os : OsState} {pa ca : Addr} {v0 v1 v4 : Value} {its : Array Value} {x repl : Str} {tx tr : Tok}
theorem whole {Q : Builtin.Re.ReTarget → Shared → Prop}
    (h1 : hp.get? pa = some (patO v0 v1 v4 ca)) (h2 : hp.get? ca = some { cls := .type "tuple", data := .seq its })
    (h : Q (target pa its x tx) ⟨hp, g, d, tk, os⟩) :
    wpAny (model prog w) A (Builtin.Re.reWholeTarget (.ref pa) (.str x tx)) Q E ⟨hp, g, d, tk, os⟩ := by
  unfold Builtin.Re.reWholeTarget
  wp_walk using wpAny_loadPart' h1, wpAny_loadPart' h2, wpAny_load' h1, wpAny_load' h2
  exact h
theorem look_call : typeLookup (.type "str") "__call__" = pure none := by rw [typeLookup_type, builtinLookup_eq_fast]; kernel_rfl
theorem sub_code {R : Result → Shared → Prop} (h1 : hp.get? pa = some (patO v0 v1 v4 ca)) (h2 : hp.get? ca = some { cls := .type "tuple", data := .seq its }) (hr : repl.cps.contains 92 = false)
    (h : codeAny (model prog w) A (.builtin "re.Pattern.sub.loop" ⟨[.ref pa, .str x tx, .str repl tr, rawInt 0, rawInt 0, rawInt 0, rawInt 0, rawInt 0, .bool false, .ref hp.objs.size, .bool false], []⟩) R ⟨hp.push { cls := .type "list", data := .seq #[] }, g, d, tk, os⟩) :
    codeAny (model prog w) A (.builtin "re.Pattern.sub" ⟨[.ref pa, .str repl tr, .str x tx], []⟩) R ⟨hp, g, d, tk, os⟩ := by
  refine codeAny_builtin entry_pat_sub ?_
  rw [Around.under_plainId (by decide +kernel)]
  unfold Builtin.«re.Pattern.sub» Builtin.Re.reSubstitute
  dsimp only
  refine wpAny_bind (wpAny_of_eq (a := [some (.str repl tr), some (.str x tx), none]) rfl ?_)
  dsimp only
  refine wpAny_bind (wpAny_pure ?_)
  refine wpAny_bind (wpAny_specialOf (typeIs_str _ _ _) look_call ?_)
  simp only [Option.isSome_none, Bool.false_eq_true, if_false]
  refine wpAny_bind (wpAny_of_eq (a := some repl) rfl ?_)
  dsimp only
  refine wpAny_bind (wpAny_pure ?_)
  simp only [hr, Bool.not_false, if_true]
  refine wpAny_bind (wpAny_pure ?_)
  dsimp only
  refine wpAny_bind (wpAny_holding (whole h1 h2 ?_))
  rw [if_neg (by decide)]
  refine wpAny_bind (wpAny_newList ?_)
  exact wpAny_pure ⟨plainId_quiet (by decide +kernel) _, h⟩
/-- the machine run by turns of four, with little fuel -/
noncomputable def driveP : Nat → Sre.M → Option Sre.M
  | 0, _ => none
  | k + 1, m => if (m.runFor 4).outcome.isSome then some (m.runFor 4) else driveP k (m.runFor 4)
theorem drive_wp {s : Shared} {Q : Sre.M → Shared → Prop} : ∀ (k turns : Nat) (m m' : Sre.M), k ≤ turns → driveP k m = some m' → Q m' s → wpAny (model prog w) A (Builtin.Re.reDrive turns m) Q E s
  | 0, _, _, _, _, h, _ => by cases h
  | k + 1, 0, _, _, h, _, _ => absurd h (by omega)
  | k + 1, t + 1, m, m', ht, h, hq => by
    unfold driveP at h
    unfold Builtin.Re.reDrive
    show wpAny (model prog w) A (if (m.runFor 4).outcome.isSome = true then pure (m.runFor 4) else do rule "sre.turn"; Builtin.Re.reDrive t (m.runFor 4)) Q E s
    by_cases e : (m.runFor 4).outcome.isSome = true
    · rw [if_pos e] at h ⊢
      cases h
      exact wpAny_pure hq
    · rw [if_neg e] at h ⊢
      exact wpAny_bind (wpAny_rule (drive_wp k t _ m' (by omega) h hq))
theorem rules_wp {s : Shared} {Q : PUnit → Shared → Prop} (m : Sre.M) (hq : Q PUnit.unit s) : ∀ l : List Nat, wpAny (model prog w) A (forIn l PUnit.unit fun i _ => do
    if m.seen.has i = true then rule (Sre.names.getD i "")
    pure (ForInStep.yield PUnit.unit)) Q E s
  | [] => by
    rw [List.forIn_nil]
    exact wpAny_pure hq
  | i :: l => by
    rw [List.forIn_cons]
    refine wpAny_bind ?_
    by_cases e : m.seen.has i = true
    · simp only [e, if_true]
      exact wpAny_bind (wpAny_rule (wpAny_pure (rules_wp m hq l)))
    · simp only [e, if_false]
      exact wpAny_pure (rules_wp m hq l)
/-- what a search gives: none: it fails (or is not known) · its place -/
noncomputable def searchP (code text : Array Nat) (start lim : Nat) (must : Bool) : Option (Option (Nat × Nat)) :=
  match driveP 200 (Sre.forSearch code text 0 start lim must) with
  | some m => match m.outcome with
    | some .matched => some (some (m.start, m.handed))
    | some .failed => some none
    | _ => none
  | none => none
theorem next_wp {s : Shared} {t : Builtin.Re.ReTarget} {start : Nat} {must : Bool} {r : Option (Nat × Nat)} {Q : Option Sre.M → Shared → Prop} (ht : t.groups = 0) (h : searchP t.code t.text start t.lim must = some r)
    (h0 : r = none → Q none s) (h1 : ∀ m, r = some (m.start, m.handed) → Q (some m) s) : wpAny (model prog w) A (Builtin.Re.reNextFound t start must) Q E s := by
  unfold Builtin.Re.reNextFound Builtin.Re.reRunToEnd
  rw [ht]
  unfold searchP at h
  cases e : driveP 200 (Sre.forSearch t.code t.text 0 start t.lim must) with
  | none => rw [e] at h; cases h
  | some m =>
    rw [e] at h
    dsimp only at h
    refine wpAny_bind (drive_wp 200 _ _ m (by decide) e ?_)
    refine wpAny_bind (rules_wp m ?_ _)
    cases e2 : m.outcome with
    | none => rw [e2] at h; cases h
    | some o =>
      rw [e2] at h
      cases o with
      | matched => cases h; exact wpAny_pure (h1 m rfl)
      | failed => cases h; exact wpAny_pure (h0 rfl)
      | stuck w => cases h
end
end Mine
end
section
open PySem PySem.W PyProof.Rows PySem.Calls
set_option maxRecDepth 100000
set_option maxHeartbeats 4000000
namespace Mine
section
variable {prog : Program} {w : World} {A : Around} {E : Value → Shared → Prop} {hp : Heap} {g : Array GenState} {d : Drawn} {tk : Nat} {os : OsState} {pa ca P : Addr} {v0 v1 v4 : Value} {its items : Array Value} {x repl : Str} {tx tr : Tok}
noncomputable def loopArgs (pa P : Addr) (x repl : Str) (tx tr : Tok) (n done start : Nat) (must : Bool) : Args := ⟨[.ref pa, .str x tx, .str repl tr, rawInt 0, rawInt 0, rawInt n, rawInt done, rawInt start, .bool must, .ref P, .bool false], []⟩
theorem lit_wp {s : Shared} {Q : Unit → Shared → Prop} (h : Q () s) : wpAny (model prog w) A (Builtin.Re.reLiteralCannotBeTurned (.str repl tr)) Q E s := by
  unfold Builtin.Re.reLiteralCannotBeTurned
  refine wpAny_bind (wpAny_of_eq (a := some repl) rfl ?_)
  simp only [Option.isNone_some, Bool.false_eq_true, if_false]
  exact wpAny_pure h
theorem loop_found {R : Result → Shared → Prop} {n done start a b k : Nat} {must : Bool} (h1 : hp.get? pa = some (patO v0 v1 v4 ca)) (h2 : hp.get? ca = some { cls := .type "tuple", data := .seq its })
    (hP : hp.get? P = some { cls := .type "list", data := .seq items k }) (hk : items.size ≤ 100)
    (hs : searchP ((its.map Builtin.Re.reRawOf).map (·.toNat)) x.cps start x.cps.size must = some (some (a, b))) (hda : done < a) (hx : x.cps.size ≤ 1000)
    (h : ∀ hp' tk' k', Heap.SameBut P hp hp' → hp'.get? P = some { cls := .type "list", data := .seq ((items.push (.str ⟨x.cps.extract done a⟩ tk)).push (.str repl tr)) k' } →
      codeAny (model prog w) A (.builtin "re.Pattern.sub.loop" (loopArgs pa P x repl tx tr (n + 1) b b (b == a))) R ⟨hp', g, d, tk', os⟩) :
    codeAny (model prog w) A (.builtin "re.Pattern.sub.loop" (loopArgs pa P x repl tx tr n done start must)) R ⟨hp, g, d, tk, os⟩ := by
  refine codeAny_builtin entry_pat_subloop ?_
  rw [Around.under_plainId (by decide +kernel)]
  unfold Builtin.«re.Pattern.sub.loop» loopArgs
  dsimp only [rawInt]
  refine wpAny_bind (whole h1 h2 ?_)
  rw [if_pos (by decide)]
  refine wpAny_bind (lit_wp ?_)
  refine wpAny_bind ?_
  rw [if_neg (by simp)]
  refine next_wp (r := some (a, b)) rfl (by rw [Int.toNat_natCast]; exact hs) (fun e => by cases e) fun m hm => ?_
  have hma : a = m.start := congrArg Prod.fst (Option.some.inj hm)
  have hmb : b = m.handed := congrArg Prod.snd (Option.some.inj hm)
  subst hma
  subst hmb
  dsimp only
  rw [Int.toNat_natCast, if_pos hda]
  refine wpAny_bind ?_
  have hse : (x.cps.extract done m.start).size ≤ 1000 := by rw [Array.size_extract]; omega
  show wpAny _ _ (mkStr ⟨x.cps.extract done m.start⟩) _ _ _
  refine wpAny_mkStr ?_ (by rw [sizeLine_eq]; show (x.cps.extract done m.start).size ≤ _; omega)
  have u1 : (hp.update P (Obj.mapSeq fun y => y.push (.str ⟨x.cps.extract done m.start⟩ tk))).get? P = some { cls := .type "list", data := .seq (items.push (.str ⟨x.cps.extract done m.start⟩ tk)) (k + 1) } := by
    rw [Heap.get?_update_self _ hP rfl]
    simp [Obj.mapSeq]
  refine wpAny_bind (wpAny_updateSeq hP rfl ?_ (by rw [sizeLine_eq]; omega) (by rw [sizeLine_eq, Array.size_push]; omega))
  rw [if_pos (by decide)]
  refine wpAny_bind (wpAny_pure ?_)
  rw [if_pos (by simp)]
  have u2 : ((hp.update P (Obj.mapSeq fun y => y.push (.str ⟨x.cps.extract done m.start⟩ tk))).update P (Obj.mapSeq fun y => y.push (.str repl tr))).get? P = some { cls := .type "list", data := .seq ((items.push (.str ⟨x.cps.extract done m.start⟩ tk)).push (.str repl tr)) (k + 2) } := by
    rw [Heap.get?_update_self _ u1 rfl]
    simp [Obj.mapSeq]
  refine wpAny_bind (wpAny_updateSeq u1 rfl ?_ (by rw [sizeLine_eq, Array.size_push]; omega) (by rw [sizeLine_eq, Array.size_push, Array.size_push]; omega))
  have hq := h _ (tk + 1) (k + 2) ((Heap.SameBut.update hp P _).trans (Heap.SameBut.update _ P _)) u2
  unfold loopArgs rawInt at hq
  exact wpAny_pure ⟨plainId_quiet (by decide +kernel) _, hq⟩
theorem loop_end {R : Result → Shared → Prop} {n done start k : Nat} {must : Bool} {texts : List Str} (h1 : hp.get? pa = some (patO v0 v1 v4 ca)) (h2 : hp.get? ca = some { cls := .type "tuple", data := .seq its })
    (hP : hp.get? P = some { cls := .type "list", data := .seq items k }) (hk : items.size ≤ 100) (hp0 : items.size ≠ 0) (ht : StrsAre items.toList texts)
    (hs : searchP ((its.map Builtin.Re.reRawOf).map (·.toNat)) x.cps start x.cps.size must = some none) (hx : x.cps.size ≤ 1000) (htx : (texts.map (·.length)).sum ≤ 10000)
    (h : ∀ hp' tk' t', Heap.SameBut P hp hp' → R (.ok (.ret (.str (Txt.join Str.empty (texts ++ if done < x.cps.size then [⟨x.cps.extract done x.cps.size⟩] else [])) t'))) ⟨hp', g, d, tk', os⟩) :
    codeAny (model prog w) A (.builtin "re.Pattern.sub.loop" (loopArgs pa P x repl tx tr n done start must)) R ⟨hp, g, d, tk, os⟩ := by
  refine codeAny_builtin entry_pat_subloop ?_
  rw [Around.under_plainId (by decide +kernel)]
  unfold Builtin.«re.Pattern.sub.loop» loopArgs
  dsimp only [rawInt]
  refine wpAny_bind (whole h1 h2 ?_)
  rw [if_pos (by decide)]
  refine wpAny_bind (lit_wp ?_)
  refine wpAny_bind ?_
  rw [if_neg (by simp)]
  refine next_wp (r := none) rfl (by rw [Int.toNat_natCast]; exact hs) (fun _ => ?_) fun m hm => by cases hm
  dsimp only
  rw [Int.toNat_natCast]
  have hse : (x.cps.extract done x.cps.size).size ≤ 1000 := by rw [Array.size_extract]; omega
  have hem : (x.cps.extract 0 0).size ≤ 1000 := by rw [Array.size_extract]; omega
  have e0 : (⟨x.cps.extract 0 0⟩ : Str) = Str.empty := by
    have : x.cps.extract 0 0 = #[] := by simp
    rw [this]; rfl
  by_cases hd : done < x.cps.size
  · rw [if_pos (show done < (target pa its x tx).lim from hd)]
    refine wpAny_bind ?_
    show wpAny _ _ (mkStr ⟨x.cps.extract done x.cps.size⟩) _ _ _
    refine wpAny_mkStr ?_ (by rw [sizeLine_eq]; show (x.cps.extract done x.cps.size).size ≤ _; omega)
    have u1 : (hp.update P (Obj.mapSeq fun y => y.push (.str ⟨x.cps.extract done x.cps.size⟩ tk))).get? P = some { cls := .type "list", data := .seq (items.push (.str ⟨x.cps.extract done x.cps.size⟩ tk)) (k + 1) } := by
      rw [Heap.get?_update_self _ hP rfl]
      simp [Obj.mapSeq]
    have hst : StrsAre (items.push (.str ⟨x.cps.extract done x.cps.size⟩ tk)).toList (texts ++ [⟨x.cps.extract done x.cps.size⟩]) := by
      rw [Array.toList_push]
      exact kct_snoc ht
    have hle : (⟨x.cps.extract done x.cps.size⟩ : Str).length ≤ 1000 := hse
    rw [if_pos hd] at h
    refine wpAny_bind (wpAny_updateSeq hP rfl ?_ (by rw [sizeLine_eq]; omega) (by rw [sizeLine_eq, Array.size_push]; omega))
    refine wpAny_bind ?_
    show wpAny _ _ (mkStr ⟨x.cps.extract 0 0⟩) _ _ _
    refine wpAny_mkStr ?_ (by rw [sizeLine_eq]; show (x.cps.extract 0 0).size ≤ _; omega)
    refine wpAny_bind (wpAny_seqItems (items := items.push (.str ⟨x.cps.extract done x.cps.size⟩ tk)) u1 rfl ?_)
    rw [if_neg (by simp; skip)]
    refine wpAny_bind ?_
    show wpAny _ _ (call (.builtin "str.join") [.str ⟨x.cps.extract 0 0⟩ _, .ref P]) _ _ _
    rw [e0]
    refine join_list (items := items.push (.str ⟨x.cps.extract done x.cps.size⟩ tk)) ⟨_, u1, rfl, _, rfl⟩ hst (by rw [show Str.empty.length = 0 from rfl]; simp only [List.map_append, List.sum_append, Nat.mul_zero, Nat.add_zero, List.map_cons, List.map_nil, List.sum_cons, List.sum_nil]; omega) ?_
    intro t' k'
    rw [if_neg (by decide)]
    refine wpAny_pure ?_
    exact h _ _ _ (Heap.SameBut.update hp P _)
  · rw [if_neg (show ¬ done < (target pa its x tx).lim from hd)]
    rw [if_neg hd, List.append_nil] at h
    refine wpAny_bind ?_
    show wpAny _ _ (mkStr ⟨x.cps.extract 0 0⟩) _ _ _
    refine wpAny_mkStr ?_ (by rw [sizeLine_eq]; show (x.cps.extract 0 0).size ≤ _; omega)
    refine wpAny_bind (wpAny_seqItems (items := items) hP rfl ?_)
    rw [if_neg (by simp; exact fun e => hp0 (by rw [e]; rfl))]
    refine wpAny_bind ?_
    show wpAny _ _ (call (.builtin "str.join") [.str ⟨x.cps.extract 0 0⟩ _, .ref P]) _ _ _
    rw [e0]
    refine join_list (items := items) ⟨_, hP, rfl, _, rfl⟩ ht (by rw [show Str.empty.length = 0 from rfl]; simp only [List.map_append, List.sum_append, Nat.mul_zero, Nat.add_zero, List.map_cons, List.map_nil, List.sum_cons, List.sum_nil]; omega) ?_
    intro t' k'
    rw [if_neg (by decide)]
    refine wpAny_pure ?_
    exact h _ _ _ (Heap.SameBut.refl P hp)
end
end Mine
end
section
open PySem PySem.W PyProof.Rows PySem.Calls
set_option maxRecDepth 100000
set_option maxHeartbeats 4000000
namespace Mine
noncomputable def subF (x repl : Str) (a b : Nat) : Str := Txt.join Str.empty ([⟨x.cps.extract 0 a⟩, repl] ++ if b < x.cps.size then [⟨x.cps.extract b x.cps.size⟩] else [])
theorem args_pat_sub (a b c : Value) : argsOk "re.Pattern.sub" ⟨[a, b, c], []⟩ := by
  unfold argsOk; rw [signature?_of (id := "re.Pattern.sub") (n := ['b', 'u', 's']) (o := ['n', 'r', 'e', 't', 't', 'a', 'P', '.', 'e', 'r']) (rows := Manifest.sig_re_Pattern) (by kernel_rfl) (by kernel_rfl)]; kernel_rfl
theorem plainAttrs_pat : PlainAttrs "re.Pattern" :=
  ⟨⟨"object.__getattribute__", by rw [typeLookup_type, builtinLookup_eq_fast]; kernel_rfl, by decide +kernel⟩, by rw [typeLookup_type, builtinLookup_eq_fast]; kernel_rfl⟩
section
variable {prog : Program} {w : World} {A : Around} {E : Value → Shared → Prop} {hp : Heap} {g : Array GenState} {d : Drawn} {tk : Nat} {os : OsState} {pa ca : Addr} {v0 v1 v4 : Value} {its : Array Value} {x repl : Str} {tx tr : Tok} {a b : Nat}
theorem sub_call {Q : Value → Shared → Prop} (h1 : hp.get? pa = some (patO v0 v1 v4 ca)) (h2 : hp.get? ca = some { cls := .type "tuple", data := .seq its }) (hr : repl.cps.contains 92 = false) (hrl : repl.length ≤ 10) (hx : x.cps.size ≤ 1000)
    (hs : searchP ((its.map Builtin.Re.reRawOf).map (·.toNat)) x.cps 0 x.cps.size false = some (some (a, b))) (ha : 0 < a) (hs2 : searchP ((its.map Builtin.Re.reRawOf).map (·.toNat)) x.cps b x.cps.size (b == a) = some none)
    (h : ∀ hp' tk' t', (∀ c o, hp.get? c = some o → hp'.get? c = some o) → Q (.str (subF x repl a b) t') ⟨hp', g, d, tk', os⟩) :
    wpAny (model prog w) A (call (.builtin "re.Pattern.sub") [.ref pa, .str repl tr, .str x tx]) Q E ⟨hp, g, d, tk, os⟩ := by
  have up : ∀ c o, hp.get? c = some o → (hp.push { cls := .type "list", data := .seq #[] }).get? c = some o := fun c o e => Heap.get?_push_of_some _ e
  have hlt : ∀ c o, hp.get? c = some o → c ≠ hp.objs.size := fun c o e => Nat.ne_of_lt (Heap.lt_size e)
  have key : codeAny (model prog w) A (.builtin "re.Pattern.sub" ⟨[.ref pa, .str repl tr, .str x tx], []⟩) (wants Q E) ⟨hp, g, d, tk, os⟩ := by
    refine sub_code h1 h2 hr ?_
    refine loop_found (P := hp.objs.size) (items := #[]) (k := 0) (n := 0) (done := 0) (start := 0) (must := false) (up _ _ h1) (up _ _ h2) (Heap.get?_push_size _ rfl) (by simp) hs ha hx ?_
    intro hp1 tk1 k1 hsb hP1
    have up1 : ∀ c o, hp.get? c = some o → hp1.get? c = some o := fun c o e => (hsb.2 c (hlt c o e)).trans (up c o e)
    refine loop_end (texts := [⟨x.cps.extract 0 a⟩, repl]) (up1 _ _ h1) (up1 _ _ h2) hP1 (by simp) (by simp) (.cons _ _ (.cons _ _ .nil)) hs2 hx ?_ ?_
    · have : (⟨x.cps.extract 0 a⟩ : Str).length ≤ 1000 := by show (x.cps.extract 0 a).size ≤ _; rw [Array.size_extract]; omega
      simp only [List.map_cons, List.map_nil, List.sum_cons, List.sum_nil]
      omega
    · intro hp2 tk2 t2 hsb2
      exact h hp2 tk2 t2 fun c o e => (hsb2.2 c (hlt c o e)).trans (up1 c o e)
  exact wpAny_call (codeAny_call_builtin_code (plainId_quiet slot_pat_sub.plain _) (slot_pat_sub.check _ _ _ _ _ _ _ _ ⟨_, h1, rfl⟩ (args_pat_sub _ _ _) key))
end
noncomputable def intsOf : List Expr → List Nat
  | [] => []
  | .Constant (.int i) .. :: r => i.toNat :: intsOf r
  | _ :: r => intsOf r
noncomputable def codeOf (x : Str) : List Stmt → Array Nat
  | [] => #[]
  | .Assign (targets := [.Name y _]) (value := .Call (args := _ :: _ :: .List es _ :: _) ..) .. :: r => if y = x then (intsOf es).toArray else codeOf x r
  | _ :: r => codeOf x r
noncomputable def codeA : Array Nat := codeOf (Str.ofString "_twin_re_1") PySem.Challenge.pw_wn0018_01.main.body
noncomputable def codeB : Array Nat := codeOf (Str.ofString "_twin_re_2") PySem.Challenge.pw_wn0018_01.main.body
theorem k64 (P : Params) : ∃ v0 v1 v4, (Mine.hd.heap_39 P).lookup 64 = some (patO v0 v1 v4 63) := ⟨_, _, _, rfl⟩
theorem k69 (P : Params) : ∃ v0 v1 v4, (Mine.hd.heap_39 P).lookup 69 = some (patO v0 v1 v4 68) := ⟨_, _, _, rfl⟩
theorem k63 (P : Params) : ∃ its, (Mine.hd.heap_39 P).lookup 63 = some { cls := .type "tuple", data := .seq its } ∧ ((its.map Builtin.Re.reRawOf).map (·.toNat)) = codeA := ⟨_, rfl, by decide +kernel⟩
theorem k68 (P : Params) : ∃ its, (Mine.hd.heap_39 P).lookup 68 = some { cls := .type "tuple", data := .seq its } ∧ ((its.map Builtin.Re.reRawOf).map (·.toNat)) = codeB := ⟨_, rfl, by decide +kernel⟩
/-- one pattern put once, if it is found once -/
noncomputable def subP (code : Array Nat) (repl x : Str) : Option Str :=
  match searchP code x.cps 0 x.cps.size false with
  | some (some (a, b)) => if 0 < a then (match searchP code x.cps b x.cps.size (b == a) with
    | some none => some (subF x repl a b)
    | _ => none) else none
  | _ => none
theorem subP_of {code : Array Nat} {repl x y : Str} (h : subP code repl x = some y) : ∃ a b, searchP code x.cps 0 x.cps.size false = some (some (a, b)) ∧ 0 < a ∧ searchP code x.cps b x.cps.size (b == a) = some none ∧ y = subF x repl a b := by
  unfold subP at h
  split at h
  · rename_i a b e
    split at h
    · rename_i ha
      split at h
      · rename_i e2
        cases h
        exact ⟨a, b, e, ha, e2, rfl⟩
      · cases h
    · cases h
  · cases h
end Mine
end
section
open PySem PySem.W PyProof.Rows PySem.Calls
set_option maxRecDepth 100000
set_option maxHeartbeats 8000000
namespace Mine
local macro_rules | `(tactic| walk_at "mine none") => `(tactic| skip)
theorem pat_keep {prog : Program} {w : World} {A : Around} {E : Value → Shared → Prop} {s : Shared} {h₀ : Heap} {L : Addr} {m : Str → Option Value} {news : List (Addr × Obj)} {P : Params} {pa ca : Addr} {repl x y : Str} {tr tx : Tok} {code : Array Nat} {Q : Value → Shared → Prop}
    (F : Fr h₀ L s.heap m) (N : News h₀ L s.heap news) (X : (Mine.hd.heap_39 P).In h₀)
    (hk : ∃ v0 v1 v4, (Mine.hd.heap_39 P).lookup pa = some (patO v0 v1 v4 ca)) (hc : ∃ its, (Mine.hd.heap_39 P).lookup ca = some { cls := .type "tuple", data := .seq its } ∧ ((its.map Builtin.Re.reRawOf).map (·.toNat)) = code)
    (hr : repl.cps.contains 92 = false) (hrl : repl.length ≤ 10) (hx : x.length ≤ 1000) (hy : subP code repl x = some y)
    (h : ∀ h' tk' t', Fr h₀ L h' m → News h₀ L h' news → Q (.str y t') { s with heap := h', toks := tk' }) :
    wpAny (model prog w) A (call (.builtin "re.Pattern.sub") [.ref pa, .str repl tr, .str x tx]) Q E s := by
  obtain ⟨v0, v1, v4, h1⟩ := hk
  obtain ⟨its, h2, hcode⟩ := hc
  obtain ⟨a, b, e1, e2, e3, rfl⟩ := subP_of hy
  rw [← hcode] at e1 e3
  obtain ⟨hp, g, d, tk, os⟩ := s
  refine sub_call (F.keep _ _ (X _ _ h1)) (F.keep _ _ (X _ _ h2)) hr hrl hx e1 e2 e3 ?_
  intro hp' tk' t' hk
  exact h hp' tk' t' ⟨F.ns.at' fun o e => hk _ o e, fun b o e => hk b o (F.keep b o e), F.above⟩ fun p hp => ⟨hk _ _ (N p hp).1, (N p hp).2⟩
theorem pat_meth {M : Model} {A : Around} {E : Value → Shared → Prop} {s : Shared} {h₀ : Heap} {L : Addr} {m : Str → Option Value} {P : Params} {pa ca : Addr} {pl : Sem Bool} {Q : Value × List Value → Shared → Prop}
    (F : Fr h₀ L s.heap m) (X : (Mine.hd.heap_39 P).In h₀) (hk : ∃ v0 v1 v4, (Mine.hd.heap_39 P).lookup pa = some (patO v0 v1 v4 ca)) (h : Q (.builtin "re.Pattern.sub", [.ref pa]) s) :
    wpAny M A (getMethod (.ref pa) (Str.ofString "sub") pl) Q E s := by
  obtain ⟨v0, v1, v4, h1⟩ := hk
  have h2 := F.keep _ _ (X _ _ h1)
  exact getMethod_builtin ⟨_, h2, rfl⟩ plainAttrs_pat slot_pat_sub type_pat_sub (fun a e => by cases e; exact ⟨_, h2, rfl⟩) h
local macro_rules | `(tactic| walk_at "getMethod ref") => `(tactic| (k_here; (with_reducible show wpAny _ _ (getMethod (Value.ref _) (PySem.Str.ofString "sub") _) _ _ _); refine pat_meth (by k_asm) (by assumption) (by first | exact k64 _ | exact k69 _) ?_))
local macro_rules | `(tactic| walk_at "call builtin:re.Pattern.sub") => `(tactic| (k_here; (show wpAny _ _ (call (Value.builtin "re.Pattern.sub") [Value.ref _, Value.str _ _, Value.str _ _]) _ _ _); refine pat_keep (by k_asm) (by k_asm) (by assumption) (by first | exact k64 _ | exact k69 _) (by first | exact k63 _ | exact k68 _) (by decide +kernel) (by decide +kernel) (by assumption) (by assumption) ?_; intro h9 tk9 t9 F9 N9))
/-- what quotedata gives -/
noncomputable def quoteP (x : Str) : Option Str := (subP codeB (Str.ofString "\x0d\n") x).bind fun y => subP codeA (Str.ofString "..") y
theorem C_quote (w : World) (mean : ExcName → Option Value) (mg mb : Str → Option Value) (news : List (Addr × Obj)) (x z : Str) (tx : Tok) (hx : x.length ≤ 1000) (hyl : ∀ y, subP codeB (Str.ofString "\x0d\n") x = some y → y.length ≤ 1000) (hq : quoteP x = some z) :
  CC w mean mg mb 76 news [.str x tx] (fun r tl => tl = [] ∧ ∃ t, r = .str z t) := by
  w_on
  unfold CC; k_fill
  intro dp un gd cn cs a ccd cl outer A₀ base h₀ L m s Q E B F X N T hk hdp hun hret
  refine wpAny_call ?_
  k_dflt (refine' code_def ?k1 ?k2 ?k3 ?k4 ?k5 ?kA ?kF ?kK ?k6 ?k7 ?k8 ?k9 ?kB ?_ ?c2 ?c3 ?c4 ?c5; (case kA => exact rfl); (case kF => exact rfl); (case kK => assumption); (case k1 => k_asm); (case k2 => k_asm); (case k3 => k_asm); (case k4 => k_asm); (case k5 => k_asm); (case k6 => k_is); (case k7 => k_is); (case k8 => ktr_room); (case k9 => exact BindsTo.of_eq rfl); (case c5 => decide); (case kB => exact locs rfl); (case c2 => exact rfl); (case c3 => exact rfl); (case c4 => exact rfl); k_whole; intro g' L' h' FG' F' N' B' X' T'; (try dsimp only); (try k_lift B'); (try k_fold))
  obtain ⟨m9, F9⟩ : ∃ m9 : Str → Option Value, Fr g' L' h' (fun k => if k = Str.ofString "data" then some (.str x tx) else m9 k) := ⟨_, Fr_ex1 F' (by rfl)⟩
  clear F'
  obtain ⟨y, hy1, hy2⟩ : ∃ y, subP codeB (Str.ofString "\x0d\n") x = some y ∧ subP codeA (Str.ofString "..") y = some z := by
    unfold quoteP at hq
    cases e : subP codeB (Str.ofString "\x0d\n") x with
    | none => rw [e] at hq; cases hq
    | some y => rw [e] at hq; exact ⟨y, rfl, hq⟩
  have hyl : y.length ≤ 1000 := hyl y hy1
  k_steps
  all_goals ((with_reducible rename Fr _ _ _ _ => kF9); (with_reducible rename News _ _ _ _ => kN9))
  all_goals exact hret _ [] _ _ ⟨rfl, _, rfl⟩ kF9 kN9
end Mine
end
section
open PySem PySem.W PyProof.Rows
set_option maxRecDepth 100000
namespace Mine
theorem off1_all {D : Addr} : ∀ {l : List (Addr × Obj)}, LCg.Off1 D l → ∀ p ∈ l, p.1 ≠ D
  | [], _, _, hp => nomatch hp
  | _ :: _, h, p, hp => (List.mem_cons.mp hp).elim (fun e => e ▸ h.1) (off1_all h.2 p)
theorem sz_r0 {n : Int} (h : 0 ≤ n ∧ n ≤ 6) : (n - 0).toNat ≤ sizeLine := Nat.le_trans (show (n - 0).toNat ≤ 6 by omega) (by rw [sizeLine_eq]; decide)
theorem sz_r1 {n v : Int} (h : 0 ≤ n ∧ n ≤ 6) (hv : 0 ≤ v ∧ v < n) : (n - (v + 1)).toNat ≤ sizeLine := Nat.le_trans (show (n - (v + 1)).toNat ≤ 6 by omega) (by rw [sizeLine_eq]; decide)
theorem sz_l {vs : List Value} {ns : List Int} (h : IntsAre vs ns) {n : Int} (hl : (ns.length : Int) = n) (hn : n = 5 ∨ n = 6) : vs.toArray.size ≤ sizeLine := by
  rw [List.size_toArray, h.length]
  exact Nat.le_trans (show ns.length ≤ 6 by omega) (by rw [sizeLine_eq]; decide)
theorem rng0 {n k : Int} (h : 0 ≤ k) (h' : k < 0 + ((n - 0).toNat : Int)) (hn : 0 ≤ n) : 0 ≤ k ∧ k < n := by omega
theorem rng1 {n v k : Int} (h : v + 1 ≤ k) (h' : k < v + 1 + ((n - (v + 1)).toNat : Int)) (hv : v < n) : v + 1 ≤ k ∧ k < n := by omega
theorem fdiv3 {n k : Int} (hn : n = 5 ∨ n = 6) (h : 0 ≤ k ∧ k < 3 * n) : k.fdiv n = 0 ∨ k.fdiv n = 1 ∨ k.fdiv n = 2 := by
  rw [Int.fdiv_eq_ediv_of_nonneg _ (by omega)]
  rcases hn with rfl | rfl <;> omega
end Mine
end
section
open PySem PySem.W PyProof.Rows
set_option maxRecDepth 100000
set_option maxHeartbeats 8000000
namespace Mine
local macro_rules | `(tactic| k_all) => `(tactic| assumption)
local macro_rules | `(tactic| walk_at "call ref") => `(tactic| (k_here; k_dflt (refine' C_line _ _ _ _ _ _ _ _ _ _ _ ?h0 ?h1 ?h2 _ _ _ _ _ _ _ _ _ _ _ _ _ _ _ _ _ ?k1 ?k2 ?k3 ?k4 ?k5 ?kK ?kd ?ku ?kR; (case k1 => k_asm); (case k2 => k_asm); (case k3 => k_asm); (case k4 => k_asm); (case k5 => k_asm); (case kK => first | exact rfl | assumption); (case kd => ktr_room); (case ku => ktr_units); (case h0 => assumption); (case h1 => assumption); (case h2 => assumption);); intro r9 tl9 h9 tk9 hR9 F9 N9; obtain ⟨D9, ws9, k9, hE9, hV9, hI9, hlt9⟩ := hR9; subst hE9; subst hV9; (try simp only [List.cons_append, List.nil_append] at N9); (try dsimp only)))
theorem S_waiting (w : World) (mean : ExcName → Option Value) (mg mb : Str → Option Value) (dp un : Nat) (gd : Option (List Code)) (L : Addr) (outer : List Env) (A₀ : Around) (base h₀ : Heap) (m₀ : Str → Option Value) (s : Shared) (Q : Flow → Shared → Prop) (E : Value → Shared → Prop) (fa : Addr) (cd : Value) (rest : List (Addr × Obj)) (p : Addr) (vs : List Value) (pn : Nat) (xs : List Str) (v : Int) (tv : Tok) (o5 o7 : Obj)
  (B : Below A₀ base outer h₀) (F : Fr h₀ L s.heap m₀) (KX : (Mine.hd.heap_39 w.params).In h₀) (N : News h₀ L s.heap ((p, listOf vs.toArray pn) :: (L+5, o5) :: (L+7, o7) :: rest))
  (T : Top Mine.hd.view_39 [Str.ofString "_twin_re_1", Str.ofString "_twin_re_2", Str.ofString "_sre"] mean mg mb h₀) (hdp : dp + 16 < recursionLimit) (hun : un + 128 < cLine) (hp : StrsAre vs xs) (hx : xs.length ≤ 6) (hv : 0 ≤ v ∧ v < xs.length) (d5 : o5.data = .cell (some (.ref p))) (d7 : o7.data = .cell (some (.int v tv)))
  (hQ : ∀ h tk D ws k, Fr h₀ L h (fun y => if y = Str.ofString "waiting" then some (.ref D) else m₀ y) → News h₀ L h ((D, listOf (List.toArray ws) k) :: (p, listOf vs.toArray pn) :: (L+5, o5) :: (L+7, o7) :: rest) → IntsAre ws (lineN xs v ((xs.length : Int) - (v + 1)).toNat) → (∀ q ∈ (p, listOf vs.toArray pn) :: (L+5, o5) :: (L+7, o7) :: rest, q.1 < D) → Q .next { s with heap := h, toks := tk })
  : wpAny (model PySem.Challenge.rw_wn0018_01.row.prog w) (ktrTop dp un gd (Str.ofString "law") lawScope L fa cd (lawCells L) outer) (exec (lb 0) (envX (Str.ofString "law") lawScope L fa cd (lawCells L))) Q E s := by
  w_on
  revert KX; k_fill; intro KX
  conv in lb 0 => whnf
  k_steps
  all_goals ((with_reducible rename Fr _ _ _ _ => kF9); (with_reducible rename News _ _ _ _ => kN9))
  all_goals exact hQ _ _ _ _ _ kF9 kN9 (by assumption) (by assumption)
end Mine
end
section
open PySem PySem.W PyProof.Rows
set_option maxRecDepth 100000
set_option maxHeartbeats 8000000
namespace Mine
theorem S_count (w : World) (mean : ExcName → Option Value) (mg mb : Str → Option Value) (dp un : Nat) (gd : Option (List Code)) (L : Addr) (outer : List Env) (A₀ : Around) (base h₀ : Heap) (m₀ : Str → Option Value) (s : Shared) (Q : Flow → Shared → Prop) (E : Value → Shared → Prop) (fa : Addr) (cd : Value) (rest : List (Addr × Obj)) (p : Addr) (vs : List Value) (pn : Nat) (xs : List Str) (v : Int) (tv : Tok) (o5 o7 : Obj)
  (B : Below A₀ base outer h₀) (F : Fr h₀ L s.heap m₀) (KX : (Mine.hd.heap_39 w.params).In h₀) (N : News h₀ L s.heap ((p, listOf vs.toArray pn) :: (L+5, o5) :: (L+7, o7) :: rest))
  (T : Top Mine.hd.view_39 [Str.ofString "_twin_re_1", Str.ofString "_twin_re_2", Str.ofString "_sre"] mean mg mb h₀) (hdp : dp + 16 < recursionLimit) (hun : un + 128 < cLine) (hp : StrsAre vs xs) (hx : xs.length ≤ 6) (hv : 0 ≤ v ∧ v < xs.length) (d5 : o5.data = .cell (some (.ref p))) (d7 : o7.data = .cell (some (.int v tv))) (hK : (Builtin.Str.occurrences (xs.getD v.toNat Str.empty) (Str.ofString "K") 0 (xs.getD v.toNat Str.empty).length 1).isEmpty = false)
  (hQ : ∀ h tk t, Fr h₀ L h (fun y => if y = Str.ofString "count" then some (.int (Txt.find (xs.getD v.toNat Str.empty) (Str.ofString "K")) t) else m₀ y) → News h₀ L h ((p, listOf vs.toArray pn) :: (L+5, o5) :: (L+7, o7) :: rest) → Q .next { s with heap := h, toks := tk })
  : wpAny (model PySem.Challenge.rw_wn0018_01.row.prog w) (ktrTop dp un gd (Str.ofString "law") lawScope L fa cd (lawCells L) outer) (exec (lb 1) (envX (Str.ofString "law") lawScope L fa cd (lawCells L))) Q E s := by
  w_on
  revert KX; k_fill; intro KX
  conv in lb 1 => whnf
  k_steps
  all_goals first
    | (((with_reducible rename Fr _ _ _ _ => kF9); (with_reducible rename News _ _ _ _ => kN9)); exact hQ _ _ _ kF9 kN9)
    | (exfalso; rename (Builtin.Str.occurrences _ _ _ _ _).isEmpty = true => hno; rw [hK] at hno; cases hno)
end Mine
end
section
open PySem PySem.W PyProof.Rows
set_option maxRecDepth 100000
set_option maxHeartbeats 8000000
namespace Mine
local macro_rules | `(tactic| walk_at "subscriptTail Name Slice ref ref") => `(tactic| (k_here; (with_reducible show wpAny _ _ (subscriptTail _ (PySem.Expr.Slice _ _ none _) (Value.ref _) (Value.ref _)) _ _ _); (try dsimp only); k_dflt (refine' kmk_slice_ints (s := ⟨_, _, _, _, _⟩) ?F ?N ?l ?p ?q ?i ?m ?c ?_ ?s ?t ?z; (case F => k_asm); (case N => k_asm); (case l => kmk_list); (case p => kmk_part); (case q => kmk_part); (case i => first | assumption | l_ints); (case m => first | exact kmk_upto (by assumption) (by omega) | exact kmk_from (by assumption) (by omega) | kmk_nums); (case c => kmk_len); (case s => with_unfolding_all rfl); (case t => kmk_pure); (case z => kmk_size)); intro D' ws' h' F' N' l1 hI' hC' hL'; (try simp only [Int.reduceNeg, Int.neg_neg, Int.reduceToNat] at hI' hC' hL'); (try k_lt l1); (try k_sweep); (try dsimp only)))
theorem S_taken (w : World) (mean : ExcName → Option Value) (mg mb : Str → Option Value) (dp un : Nat) (gd : Option (List Code)) (L : Addr) (outer : List Env) (A₀ : Around) (base h₀ : Heap) (m₀ : Str → Option Value) (s : Shared) (Q : Flow → Shared → Prop) (E : Value → Shared → Prop) (fa : Addr) (cd : Value) (rest : List (Addr × Obj)) (q : Addr) (vs : List Value) (qn : Nat) (ns : List Int) (c : Int) (tc : Tok) (o8 : Obj) (v8 : Option Value)
  (B : Below A₀ base outer h₀) (F : Fr h₀ L s.heap (fun y => if y = Str.ofString "waiting" then some (.ref q) else if y = Str.ofString "count" then some (.int c tc) else m₀ y)) (KX : (Mine.hd.heap_39 w.params).In h₀) (N : News h₀ L s.heap ((q, listOf vs.toArray qn) :: (L+8, o8) :: rest))
  (T : Top Mine.hd.view_39 [Str.ofString "_twin_re_1", Str.ofString "_twin_re_2", Str.ofString "_sre"] mean mg mb h₀) (hdp : dp + 16 < recursionLimit) (hun : un + 128 < cLine) (hq : IntsAre vs ns) (hx : ns.length ≤ 6) (hc : 0 ≤ c ∧ c ≤ 100) (d8 : o8.data = .cell v8) (hq8 : q ≠ L + 8) (hoff : ∀ p ∈ rest, p.1 ≠ L + 8)
  (hQ : ∀ h tk D ws k o, Fr h₀ L h (fun y => if y = Str.ofString "waiting" then some (.ref q) else if y = Str.ofString "count" then some (.int c tc) else m₀ y) → News h₀ L h ((D, listOf (List.toArray ws) k) :: (q, listOf vs.toArray qn) :: (L+8, o) :: rest) → IntsAre ws (ns.take c.toNat) → o.data = .cell (some (.ref D)) → (∀ p ∈ (q, listOf vs.toArray qn) :: (L+8, o8) :: rest, p.1 < D) → Q .next { s with heap := h, toks := tk })
  : wpAny (model PySem.Challenge.rw_wn0018_01.row.prog w) (ktrTop dp un gd (Str.ofString "law") lawScope L fa cd (lawCells L) outer) (exec (lb 2) (envX (Str.ofString "law") lawScope L fa cd (lawCells L))) Q E s := by
  w_on
  revert KX; k_fill; intro KX
  conv in lb 2 => whnf
  repeat' ((fail_if_success (with_reducible show wpAny _ _ (storeName _ _ _) _ _ _)); first | (k_unfold; (try dsimp only)) | (k_end; wrow_close) | walk1 | (dsimp only; walk1) | (leave1; walk_say "STEP leave1"; try dsimp only) | fail "no step")
  (with_reducible rename Fr _ _ _ _ => kF9); (with_reducible rename News _ _ _ _ => kN9)
  rename IntsAre _ (List.take _ _) => hI
  rename _ < _ ∧ _ ∧ AllLt _ rest => l1
  refine stCell (own := [(_, _), (_, _)]) kF9 kN9 d8 (off2 (Nat.ne_of_gt l1.2.1) hq8) hoff ?_
  intro h7 o7 F7 N7 d7
  exact hQ _ _ _ _ _ _ F7 N7 hI d7 (ktn_ltOf (l := (q, listOf vs.toArray qn) :: (L+8, o8) :: rest) l1)
end Mine
end
section
open PySem PySem.W PyProof.Rows
set_option maxRecDepth 100000
set_option maxHeartbeats 8000000
namespace Mine
theorem S_after (w : World) (mean : ExcName → Option Value) (mg mb : Str → Option Value) (dp un : Nat) (gd : Option (List Code)) (L : Addr) (outer : List Env) (A₀ : Around) (base h₀ : Heap) (m₀ : Str → Option Value) (s : Shared) (Q : Flow → Shared → Prop) (E : Value → Shared → Prop) (fa : Addr) (cd : Value) (rest : List (Addr × Obj)) (o9 : Obj) (v9 : Option Value)
  (B : Below A₀ base outer h₀) (F : Fr h₀ L s.heap m₀) (KX : (Mine.hd.heap_39 w.params).In h₀) (N : News h₀ L s.heap ((L+9, o9) :: rest))
  (T : Top Mine.hd.view_39 [Str.ofString "_twin_re_1", Str.ofString "_twin_re_2", Str.ofString "_sre"] mean mg mb h₀) (hdp : dp + 16 < recursionLimit) (hun : un + 128 < cLine) (d9 : o9.data = .cell v9) (hoff : ∀ p ∈ rest, p.1 ≠ L + 9)
  (hQ : ∀ h tk D k o, Fr h₀ L h m₀ → News h₀ L h ((D, listOf (List.toArray []) k) :: (L+9, o) :: rest) → o.data = .cell (some (.ref D)) → (∀ p ∈ (L+9, o9) :: rest, p.1 < D) → Q .next { s with heap := h, toks := tk })
  : wpAny (model PySem.Challenge.rw_wn0018_01.row.prog w) (ktrTop dp un gd (Str.ofString "law") lawScope L fa cd (lawCells L) outer) (exec (lb 3) (envX (Str.ofString "law") lawScope L fa cd (lawCells L))) Q E s := by
  w_on
  revert KX; k_fill; intro KX
  conv in lb 3 => whnf
  repeat' ((fail_if_success (with_reducible show wpAny _ _ (storeName _ _ _) _ _ _)); first | (k_unfold; (try dsimp only)) | (k_end; wrow_close) | walk1 | (dsimp only; walk1) | (leave1; walk_say "STEP leave1"; try dsimp only) | fail "no step")
  (with_reducible rename Fr _ _ _ _ => kF9); (with_reducible rename News _ _ _ _ => kN9)
  rename _ ∧ AllLt _ rest => l1
  refine stCell (own := [(_, _)]) kF9 kN9 d9 (off1 (Nat.ne_of_gt l1.1)) hoff ?_
  intro h7 o7 F7 N7 d7
  exact hQ _ _ _ _ _ F7 N7 d7 (ktn_ltOf (l := (L+9, o9) :: rest) l1)
end Mine
end
section
open PySem PySem.W PyProof.Rows
set_option maxRecDepth 100000
set_option maxHeartbeats 8000000
namespace Mine
local macro_rules | `(tactic| k_all) => `(tactic| assumption)
theorem str_ext {x y : Str} (h : x.cps.toList = y.cps.toList) : x = y := by
  cases x; cases y; congr 1; exact Array.toList_inj.mp h
theorem app_at {prog : Program} {w : World} {A : Around} {E : Value → Shared → Prop} {s : Shared} {h₀ : Heap} {L a : Addr} {m : Str → Option Value} {own rest : List (Addr × Obj)} {av : List Value} {k : Nat} {v : Value} {Q : Value → Shared → Prop}
    (F : Fr h₀ L s.heap m) (N : News h₀ L s.heap (own ++ (a, listOf (List.toArray av) k) :: rest)) (h1 : ∀ p ∈ own, p.1 ≠ a) (h2 : ∀ p ∈ rest, p.1 ≠ a) (hl : av.length ≤ 6)
    (h : ∀ h' k', Fr h₀ L h' m → News h₀ L h' (own ++ (a, listOf (List.toArray (av ++ [v])) k') :: rest) → Q .none { s with heap := h' }) :
    wpAny (model prog w) A (call (.builtin "list.append") [.ref a, v]) Q E s := by
  have hm := N (a, listOf (List.toArray av) k) (List.mem_append_right _ (.head _))
  have hl' : (List.toArray av).size ≤ 6 := by simpa using hl
  refine wpAny_call_entry slot_list_append ⟨_, hm.1, rfl⟩ entry_list_append ?_ (args_list_append _ _)
  show wpAny _ _ (updateSeq a (·.push v) >>= fun _ => ret .none) _ _ s
  refine wpAny_bind ?_
  refine wpAny_updateSeq hm.1 rfl (wpAny_pure ⟨.none, rfl, ?_⟩) (by rw [sizeLine_eq]; omega) (by rw [sizeLine_eq, Array.size_push]; omega)
  have hs := Heap.SameBut.update s.heap a (Obj.mapSeq (·.push v))
  refine h _ (k + 1) ⟨F.ns.sameBut hs (Ne.symm hm.2.1), fun b ob e => (hs.2 b (fun q => ?_)).trans (F.keep b ob e), F.above⟩ (N.setAt h1 h2 hs ?_)
  · rw [q, hm.2.2] at e
    cases e
  · rw [Heap.get?_update_self _ hm.1 rfl]
    simp [Obj.mapSeq]
theorem S_for4 (w : World) (mean : ExcName → Option Value) (mg mb : Str → Option Value) (dp un : Nat) (gd : Option (List Code)) (L : Addr) (outer : List Env) (A₀ : Around) (base h₀ : Heap) (m₀ : Str → Option Value) (s : Shared) (Q : Flow → Shared → Prop) (E : Value → Shared → Prop) (fa : Addr) (cd : Value) (rest : List (Addr × Obj)) (a : Addr) (k0 : Nat) (q : Addr) (qs : List Value) (qn : Nat) (ns : List Int) (p : Addr) (ps : List Value) (pn : Nat) (xs : List Str) (wd : Addr) (wv : List Value) (wn : Nat) (ws : List Int) (zs : List Str) (o1 o3 o5 o7 o8 o9 : Obj) (n v : Int) (tn tv : Tok) (c : Int) (tc : Tok) (wt : Addr) (cn : Bool)
  (B : Below A₀ base outer h₀) (F : Fr h₀ L s.heap (fun y => if y = Str.ofString "count" then some (.int c tc) else if y = Str.ofString "waiting" then some (.ref wt) else if y = Str.ofString "can" then some (.bool cn) else m₀ y)) (KX : (Mine.hd.heap_39 w.params).In h₀) (N : News h₀ L s.heap ((a, listOf (List.toArray []) k0) :: (q, listOf qs.toArray qn) :: (p, listOf ps.toArray pn) :: (wd, listOf wv.toArray wn) :: (L+1, o1) :: (L+3, o3) :: (L+5, o5) :: (L+7, o7) :: (L+8, o8) :: (L+9, o9) :: rest))
  (T : Top Mine.hd.view_39 [Str.ofString "_twin_re_1", Str.ofString "_twin_re_2", Str.ofString "_sre"] mean mg mb h₀) (hdp : dp + 16 < recursionLimit) (hun : un + 128 < cLine) (hq : IntsAre qs ns) (hx : ns.length ≤ 6) (hp : StrsAre ps xs) (hpl : (xs.length : Int) = n) (hw : IntsAre wv ws) (hwl : (ws.length : Int) = n) (hn : 0 ≤ n ∧ n ≤ 6) (hv : 0 ≤ v ∧ v < n) (hz : (zs.length : Int) = n) (hoa : ∀ r ∈ (q, listOf qs.toArray qn) :: (p, listOf ps.toArray pn) :: (wd, listOf wv.toArray wn) :: (L+1, o1) :: (L+3, o3) :: (L+5, o5) :: (L+7, o7) :: (L+8, o8) :: (L+9, o9) :: rest, r.1 ≠ a) (d1 : o1.data = .cell (some (.int n tn))) (d3 : o3.data = .cell (some (.ref wd))) (d5 : o5.data = .cell (some (.ref p))) (d7 : o7.data = .cell (some (.int v tv))) (d8 : o8.data = .cell (some (.ref q))) (d9 : o9.data = .cell (some (.ref a))) (hE : PassesOwn (model PySem.Challenge.rw_wn0018_01.row.prog w) (ktrTop dp un gd (Str.ofString "law") lawScope L fa cd (lawCells L) outer) (envX (Str.ofString "law") lawScope L fa cd (lawCells L)) E) (hv0 : ∃ l c r, Pad (xs.getD v.toNat Str.empty) l c r ∧ (xs.getD v.toNat Str.empty).length ≤ 100 ∧ 0 ≤ ws.getD v.toNat 0 ∧ (zs.getD v.toNat Str.empty).cps.toList = List.replicate (l - min l (ws.getD v.toNat 0).toNat) 32 ++ c ++ List.replicate (r - min r ((ws.getD v.toNat 0).toNat - min l (ws.getD v.toNat 0).toNat)) 32) (hv1 : ∀ u : Int, 0 ≤ u → u < n → u ≠ v → (ns.any fun x => x == u) = true → ∃ l c r, Pad (xs.getD u.toNat Str.empty) l c r ∧ (xs.getD u.toNat Str.empty).length ≤ 100 ∧ (zs.getD u.toNat Str.empty).cps.toList = List.replicate (l - min l (1 : Int).toNat) 32 ++ c ++ List.replicate (r - min r ((1 : Int).toNat - min l (1 : Int).toNat)) 32) (hv2 : ∀ u : Int, 0 ≤ u → u < n → v < u → (ns.any fun x => x == u) = false → (xs.getD u.toNat Str.empty).length ≤ 1000 ∧ (∀ y, subP codeB (Str.ofString "\x0d\n") (xs.getD u.toNat Str.empty) = some y → y.length ≤ 1000) ∧ quoteP (xs.getD u.toNat Str.empty) = some (zs.getD u.toNat Str.empty)) (hv3 : ∀ u : Int, 0 ≤ u → u < v → (ns.any fun x => x == u) = false → zs.getD u.toNat Str.empty = xs.getD u.toNat Str.empty)
  (hQ : ∀ h tk m av ak, m (Str.ofString "count") = some (.int c tc) → m (Str.ofString "waiting") = some (.ref wt) → m (Str.ofString "can") = some (.bool cn) → StrsAre av zs → Fr h₀ L h m → News h₀ L h ((a, listOf av.toArray ak) :: (q, listOf qs.toArray qn) :: (p, listOf ps.toArray pn) :: (wd, listOf wv.toArray wn) :: (L+1, o1) :: (L+3, o3) :: (L+5, o5) :: (L+7, o7) :: (L+8, o8) :: (L+9, o9) :: rest) → Q .next { s with heap := h, toks := tk })
  : wpAny (model PySem.Challenge.rw_wn0018_01.row.prog w) (ktrTop dp un gd (Str.ofString "law") lawScope L fa cd (lawCells L) outer) (exec (lb 4) (envX (Str.ofString "law") lawScope L fa cd (lawCells L))) Q E s := by
  w_on
  revert KX; k_fill; intro KX
  conv in lb 4 => whnf
  refine ForR (h₀ := h₀) rfl ?_ (hE := hE)
  k_steps
  refine ⟨_, _, _, _, _, _, (n - 0).toNat, _, _, fun i m nw => (∃ av ak, nw = (a, listOf av.toArray ak) :: (q, listOf qs.toArray qn) :: (p, listOf ps.toArray pn) :: (wd, listOf wv.toArray wn) :: (L+1, o1) :: (L+3, o3) :: (L+5, o5) :: (L+7, o7) :: (L+8, o8) :: (L+9, o9) :: rest ∧ StrsAre av (zs.take i)) ∧ m (Str.ofString "count") = some (.int c tc) ∧ m (Str.ofString "waiting") = some (.ref wt) ∧ m (Str.ofString "can") = some (.bool cn), rfl, by assumption, ?_, ?_, by assumption, by assumption, ⟨⟨[], _, rfl, .nil⟩, by rfl, by rfl, by rfl⟩, ?_, ?_⟩
  · exact small_one (by omega) (by omega) (by omega) (by omega)
  · exact rangeSize_nat _ _
  · rintro i m₁ nw I oI hh tk9 t9 hi9 ⟨⟨av, ak, rfl, hav⟩, hm1, hm2, hm3⟩ F9 N9 hI9 hLI
    replace F9 : Fr h₀ L hh _ := Fr_ex3 F9 hm1 hm2 hm3
    replace N9 : News h₀ L hh ((I, oI) :: (a, listOf av.toArray ak) :: (q, listOf qs.toArray qn) :: (p, listOf ps.toArray pn) :: (wd, listOf wv.toArray wn) :: (L+1, o1) :: (L+3, o3) :: (L+5, o5) :: (L+7, o7) :: (L+8, o8) :: (L+9, o9) :: rest) := N9
    have hI0 := hI9
    obtain ⟨u, hu0⟩ : ∃ u : Int, u = 0 + (i : Int) := ⟨_, rfl⟩
    rw [← hu0]
    have hu1 : 0 ≤ u ∧ u < n := by omega
    have hIa : a ≠ I := hI9 _ (.head _)
    have hav6 : av.length ≤ 6 := by
      have := hav.length
      rw [List.length_take] at this; omega
    have hzt : ∀ t : Tok, StrsAre (av ++ [Value.str (zs.getD u.toNat Str.empty) t]) (zs.take (i + 1)) := by
      intro t
      have hi8 : i < zs.length := by omega
      have e8 : u.toNat = i := by omega
      rw [e8, List.take_succ_eq_append_getElem hi8, List.getD_eq_getElem?_getD, List.getElem?_eq_getElem hi8]
      exact kct_snoc hav
    repeat' ((fail_if_success (with_reducible show wpAny _ _ (call (Value.ref _) _) _ _ _)); first | (k_unfold; (try dsimp only)) | (k_end; wrow_close) | walk1 | (dsimp only; walk1) | (leave1; walk_say "STEP leave1"; try dsimp only) | fail "no step")

    · rename u = v => huv9
      rw [← huv9] at hv0
      obtain ⟨l9, c9, r9, hP9, hl9, hw9, hz9⟩ := hv0
      (refine' C_strip _ _ _ _ _ _ _ _ _ l9 r9 c9 ?h0a ?h1a ?h2a _ _ _ _ _ _ _ _ _ _ _ _ _ _ _ _ _ ?k1a ?k2a ?k3a ?k4a ?k5a ?kKa ?kda ?kua ?kRa; (case k1a => k_asm); (case k2a => k_asm); (case k3a => k_asm); (case k4a => k_asm); (case k5a => k_asm); (case kKa => first | exact rfl | assumption); (case kda => ktr_room); (case kua => ktr_units); (case h0a => first | assumption | decide); (case h1a => assumption); (case h2a => assumption)); intro r8 tl8 h8 tk8 hR8 F8 N8; obtain ⟨hE8, t8, y8, hV8, hy8⟩ := hR8; subst hE8; subst hV8; (have hyz : y8 = zs.getD u.toNat Str.empty := str_ext (hy8.trans hz9.symm)); subst hyz; (try simp only [List.nil_append] at N8); (try dsimp only)
      (try dsimp only)
      repeat' ((fail_if_success (show wpAny _ _ (call (Value.builtin "list.append") [Value.ref _, Value.str _ _]) _ _ _)); first | (k_unfold; (try dsimp only)) | (k_end; wrow_close) | walk1 | (dsimp only; walk1) | (leave1; walk_say "STEP leave1"; try dsimp only) | fail "no step")
      (with_reducible rename Fr _ _ _ _ => kF9); (with_reducible rename News _ _ _ _ => kN9)
      show wpAny _ _ (call (Value.builtin "list.append") [Value.ref _, Value.str _ _]) _ _ _
      refine app_at (own := [(I, oI)]) kF9 (fun p hp => kN9 p hp) (off1 (Ne.symm hIa)) hoa hav6 ?_
      intro h7 k7 F7 N7
      dsimp only
      k_steps
      exact TurnEnd.next F7 N7 (fun p hp => by
        rcases List.mem_cons.mp hp with rfl | hp
        · exact hIa
        · exact hI0 p (.tail _ hp)) ⟨⟨_, _, rfl, hzt _⟩, by rfl, by rfl, by rfl⟩
    · rename ¬ (_ = _) => hne9; rename (List.any _ _) = true => hany9
      obtain ⟨l9, c9, r9, hP9, hl9, hz9⟩ := hv1 u hu1.1 hu1.2 hne9 hany9
      (refine' C_strip _ _ _ _ _ _ _ _ _ l9 r9 c9 ?h0b ?h1b ?h2b _ _ _ _ _ _ _ _ _ _ _ _ _ _ _ _ _ ?k1b ?k2b ?k3b ?k4b ?k5b ?kKb ?kdb ?kub ?kRb; (case k1b => k_asm); (case k2b => k_asm); (case k3b => k_asm); (case k4b => k_asm); (case k5b => k_asm); (case kKb => first | exact rfl | assumption); (case kdb => ktr_room); (case kub => ktr_units); (case h0b => first | assumption | decide); (case h1b => assumption); (case h2b => assumption)); intro r8 tl8 h8 tk8 hR8 F8 N8; obtain ⟨hE8, t8, y8, hV8, hy8⟩ := hR8; subst hE8; subst hV8; (have hyz : y8 = zs.getD u.toNat Str.empty := str_ext (hy8.trans hz9.symm)); subst hyz; (try simp only [List.nil_append] at N8); (try dsimp only)
      (try dsimp only)
      repeat' ((fail_if_success (show wpAny _ _ (call (Value.builtin "list.append") [Value.ref _, Value.str _ _]) _ _ _)); first | (k_unfold; (try dsimp only)) | (k_end; wrow_close) | walk1 | (dsimp only; walk1) | (leave1; walk_say "STEP leave1"; try dsimp only) | fail "no step")
      (with_reducible rename Fr _ _ _ _ => kF9); (with_reducible rename News _ _ _ _ => kN9)
      show wpAny _ _ (call (Value.builtin "list.append") [Value.ref _, Value.str _ _]) _ _ _
      refine app_at (own := [(I, oI)]) kF9 (fun p hp => kN9 p hp) (off1 (Ne.symm hIa)) hoa hav6 ?_
      intro h7 k7 F7 N7
      dsimp only
      k_steps
      exact TurnEnd.next F7 N7 (fun p hp => by
        rcases List.mem_cons.mp hp with rfl | hp
        · exact hIa
        · exact hI0 p (.tail _ hp)) ⟨⟨_, _, rfl, hzt _⟩, by rfl, by rfl, by rfl⟩
    · rename (List.any _ _) = false => hany9
      obtain ⟨hx9, hy9, hq9⟩ := hv2 u hu1.1 hu1.2 (by omega) hany9
      (refine' C_quote _ _ _ _ _ _ _ _ ?h0 ?h1 ?h2 _ _ _ _ _ _ _ _ _ _ _ _ _ _ _ _ _ ?k1 ?k2 ?k3 ?k4 ?k5 ?kK ?kd ?ku ?kR; (case k1 => k_asm); (case k2 => k_asm); (case k3 => k_asm); (case k4 => k_asm); (case k5 => k_asm); (case kK => first | exact rfl | assumption); (case kd => ktr_room); (case ku => ktr_units); (case h0 => assumption); (case h1 => assumption); (case h2 => assumption)); intro r8 tl8 h8 tk8 hR8 F8 N8; obtain ⟨hE8, t8, hV8⟩ := hR8; subst hE8; subst hV8; (try simp only [List.nil_append] at N8); (try dsimp only)
      (try dsimp only)
      repeat' ((fail_if_success (show wpAny _ _ (call (Value.builtin "list.append") [Value.ref _, Value.str _ _]) _ _ _)); first | (k_unfold; (try dsimp only)) | (k_end; wrow_close) | walk1 | (dsimp only; walk1) | (leave1; walk_say "STEP leave1"; try dsimp only) | fail "no step")
      (with_reducible rename Fr _ _ _ _ => kF9); (with_reducible rename News _ _ _ _ => kN9)
      show wpAny _ _ (call (Value.builtin "list.append") [Value.ref _, Value.str _ _]) _ _ _
      refine app_at (own := [(I, oI)]) kF9 (fun p hp => kN9 p hp) (off1 (Ne.symm hIa)) hoa hav6 ?_
      intro h7 k7 F7 N7
      dsimp only
      k_steps
      exact TurnEnd.next F7 N7 (fun p hp => by
        rcases List.mem_cons.mp hp with rfl | hp
        · exact hIa
        · exact hI0 p (.tail _ hp)) ⟨⟨_, _, rfl, hzt _⟩, by rfl, by rfl, by rfl⟩
    · rename (List.any _ _) = false => hany9
      have hzx := hv3 u hu1.1 (by omega) hany9
      rw [← hzx]
      (try dsimp only)
      repeat' ((fail_if_success (show wpAny _ _ (call (Value.builtin "list.append") [Value.ref _, Value.str _ _]) _ _ _)); first | (k_unfold; (try dsimp only)) | (k_end; wrow_close) | walk1 | (dsimp only; walk1) | (leave1; walk_say "STEP leave1"; try dsimp only) | fail "no step")
      (with_reducible rename Fr _ _ _ _ => kF9); (with_reducible rename News _ _ _ _ => kN9)
      show wpAny _ _ (call (Value.builtin "list.append") [Value.ref _, Value.str _ _]) _ _ _
      refine app_at (own := [(I, oI)]) kF9 (fun p hp => kN9 p hp) (off1 (Ne.symm hIa)) hoa hav6 ?_
      intro h7 k7 F7 N7
      dsimp only
      k_steps
      exact TurnEnd.next F7 N7 (fun p hp => by
        rcases List.mem_cons.mp hp with rfl | hp
        · exact hIa
        · exact hI0 p (.tail _ hp)) ⟨⟨_, _, rfl, hzt _⟩, by rfl, by rfl, by rfl⟩
  · rintro m₁ nw hh tk9 ⟨⟨av, ak, rfl, hav⟩, hm1, hm2, hm3⟩ F9 N9
    exact hQ _ _ _ _ _ hm1 hm2 hm3 (by rwa [List.take_of_length_le (by omega)] at hav) F9 N9
end Mine
end
section
open PySem PySem.W PyProof.Rows
set_option maxRecDepth 100000
set_option maxHeartbeats 8000000
namespace Mine
theorem S_lacking (w : World) (mean : ExcName → Option Value) (mg mb : Str → Option Value) (dp un : Nat) (gd : Option (List Code)) (L : Addr) (outer : List Env) (A₀ : Around) (base h₀ : Heap) (m₀ : Str → Option Value) (s : Shared) (Q : Flow → Shared → Prop) (E : Value → Shared → Prop) (fa : Addr) (cd : Value) (rest : List (Addr × Obj)) (q : Addr) (vs : List Value) (qn : Nat) (ns : List Int) (p : Addr) (ps : List Value) (pn : Nat) (xs : List Str) (o5 o8 : Obj)
  (B : Below A₀ base outer h₀) (F : Fr h₀ L s.heap m₀) (KX : (Mine.hd.heap_39 w.params).In h₀) (N : News h₀ L s.heap ((q, listOf vs.toArray qn) :: (p, listOf ps.toArray pn) :: (L+5, o5) :: (L+8, o8) :: rest))
  (T : Top Mine.hd.view_39 [Str.ofString "_twin_re_1", Str.ofString "_twin_re_2", Str.ofString "_sre"] mean mg mb h₀) (hdp : dp + 16 < recursionLimit) (hun : un + 128 < cLine) (hq : IntsAre vs ns) (hx : ns.length ≤ 6) (hp : StrsAre ps xs) (hxs : xs.length ≤ 6) (hns : ∀ k ∈ ns, 0 ≤ k ∧ k < (xs.length : Int)) (d5 : o5.data = .cell (some (.ref p))) (d8 : o8.data = .cell (some (.ref q))) (hK : ∀ k ∈ ns, (Builtin.Str.occurrences (xs.getD k.toNat Str.empty) (Str.ofString "K") 0 (xs.getD k.toNat Str.empty).length 1).isEmpty = false)
  (hQ : ∀ h tk D ws k, Fr h₀ L h (fun y => if y = Str.ofString "lacking" then some (.ref D) else m₀ y) → News h₀ L h ((D, listOf (List.toArray ws) k) :: (q, listOf vs.toArray qn) :: (p, listOf ps.toArray pn) :: (L+5, o5) :: (L+8, o8) :: rest) → IntsAre ws (ns.foldl (fun l u => if Txt.find (xs.getD u.toNat Str.empty) (Str.ofString "K") = 0 then l ++ [u] else l) []) → (∀ r ∈ (q, listOf vs.toArray qn) :: (p, listOf ps.toArray pn) :: (L+5, o5) :: (L+8, o8) :: rest, r.1 ≠ D) → Q .next { s with heap := h, toks := tk })
  : wpAny (model PySem.Challenge.rw_wn0018_01.row.prog w) (ktrTop dp un gd (Str.ofString "law") lawScope L fa cd (lawCells L) outer) (exec (lb 5) (envX (Str.ofString "law") lawScope L fa cd (lawCells L))) Q E s := by
  w_on
  revert KX; k_fill; intro KX
  conv in lb 5 => whnf
  k_dflt (refine LCt.Assign_ListComp_T (F₀ := by k_asm) (by rfl) (by with_unfolding_all rfl) (by with_unfolding_all rfl) (by decide) (by rfl) (by decide) (by rfl) (by rfl) (by rfl) ?_)
  repeat' ((fail_if_success (with_reducible show LCt.CompSrcT _ _ _ _ _ _ _ _ _ _ _ _ _ _ _)); first | (k_unfold; (try dsimp only)) | (k_end; wrow_close) | walk1 | (dsimp only; walk1) | (leave1; walk_say "STEP leave1"; try dsimp only) | fail "no step")

  refine LCt.CompSrcT.ledger rfl (by k_asm) (by k_asm) (by k_mem) (by kmk_size) ?_
  intro g2
  refine kci_list (fun l u => if Txt.find (xs.getD u.toNat Str.empty) (Str.ofString "K") = 0 then l ++ [u] else l) hq (fun k' t' I' oI' C' oC' D' m' ys' l' h' tk' E' hk' hI' hC' hx' F' N' off' ne' mk' => ?_) ?_ ?_
  · have off0 := off'
    simp only [LCg.Off3, and_true] at off'
    have hkk := hns k' hk'
    k_steps
    · exfalso
      rename (Builtin.Str.occurrences _ _ _ _ _).isEmpty = true => hno
      rw [hK k' hk'] at hno; cases hno
    · rename Txt.find _ _ = 0 => hc
      simp only [if_pos hc]
      exact LCg.CompEnd.intro F' N' _ (fun _ h => h) off0 (Or.inr ⟨_, .head _, rfl, _, rfl⟩) ⟨rfl, _, _, rfl, rfl⟩
    · rename Txt.find _ _ ≠ 0 => hc
      simp only [if_neg hc]
      exact LCg.CompEnd.intro F' N' _ (fun _ h => h) off0 (Or.inr ⟨_, .head _, rfl, _, rfl⟩) ⟨rfl, rfl⟩
  · unfold KPfDone
    intro ys hys hsz
    unfold LCg.FinA
    intro D' h' tk' F' N' o1'
    have o0' := o1'
    (try simp only [LCg.Off1, and_true] at o1')
    dsimp only
    (with_reducible rename Fr _ _ _ _ => kF9); (with_reducible rename News _ _ _ _ => kN9)
    exact hQ _ _ _ _ _ kF9 kN9 hys (off1_all o0')
  · intro l k
    dsimp only
    split <;> simp
end Mine
end
section
open PySem PySem.W PyProof.Rows
set_option maxRecDepth 100000
set_option maxHeartbeats 8000000
namespace Mine
theorem fold_id (gs : List Int) : List.foldl (fun (l : List Int) (_ : Int) => l) [] gs = [] := by induction gs <;> simp_all
theorem S_if6 (w : World) (mean : ExcName → Option Value) (mg mb : Str → Option Value) (dp un : Nat) (gd : Option (List Code)) (L : Addr) (outer : List Env) (A₀ : Around) (base h₀ : Heap) (m₀ : Str → Option Value) (s : Shared) (Q : Flow → Shared → Prop) (E : Value → Shared → Prop) (fa : Addr) (cd : Value) (rest : List (Addr × Obj)) (g : Addr) (gv : List Value) (gn : Nat) (gs : List Int) (q : Addr) (qs : List Value) (qn : Nat) (ns : List Int) (p : Addr) (ps : List Value) (pn : Nat) (xs : List Str) (a : Addr) (av : List Value) (an : Nat) (as : List Str) (wd : Addr) (wv : List Value) (wn : Nat) (ws : List Int) (o3 o5 o9 : Obj) (c : Int) (tc : Tok) (cn : Bool)
  (B : Below A₀ base outer h₀) (F : Fr h₀ L s.heap (fun y => if y = Str.ofString "lacking" then some (.ref g) else if y = Str.ofString "count" then some (.int c tc) else if y = Str.ofString "waiting" then some (.ref q) else if y = Str.ofString "can" then some (.bool cn) else m₀ y)) (KX : (Mine.hd.heap_39 w.params).In h₀) (N : News h₀ L s.heap ((g, listOf gv.toArray gn) :: (q, listOf qs.toArray qn) :: (p, listOf ps.toArray pn) :: (a, listOf av.toArray an) :: (wd, listOf wv.toArray wn) :: (L+3, o3) :: (L+5, o5) :: (L+9, o9) :: rest))
  (T : Top Mine.hd.view_39 [Str.ofString "_twin_re_1", Str.ofString "_twin_re_2", Str.ofString "_sre"] mean mg mb h₀) (hdp : dp + 16 < recursionLimit) (hun : un + 128 < cLine) (hg : IntsAre gv gs) (hgl : gs.length ≤ 6) (hq : IntsAre qs ns) (hx : ns.length ≤ 6) (hp : StrsAre ps xs) (hxs : xs.length ≤ 6) (ha : StrsAre av as) (has : as.length = xs.length) (hw : IntsAre wv ws) (hwl : ws.length = xs.length) (hc : 0 ≤ c ∧ c ≤ 100) (d3 : o3.data = .cell (some (.ref wd))) (d5 : o5.data = .cell (some (.ref p))) (d9 : o9.data = .cell (some (.ref a))) (hgm : ∀ u ∈ gs, 0 ≤ u ∧ u < (xs.length : Int)) (hgw : ∀ u ∈ gs, 0 ≤ ws.getD u.toNat 0 ∧ ws.getD u.toNat 0 ≤ 6) (hal : ∀ u ∈ gs, (as.getD u.toNat Str.empty).length ≤ 100) (hgt : ∀ u ∈ gs, as.getD u.toNat Str.empty ++ Txt.mul (Str.ofString " ") (if ws.getD u.toNat 0 < 1 then ws.getD u.toNat 0 else 1) = xs.getD u.toNat Str.empty)
  (hQ : (gs = [] → c ≤ (ns.length : Int) → ∀ h tk, Fr h₀ L h (fun y => if y = Str.ofString "lacking" then some (.ref g) else if y = Str.ofString "count" then some (.int c tc) else if y = Str.ofString "waiting" then some (.ref q) else if y = Str.ofString "can" then some (.bool cn) else m₀ y) → News h₀ L h ((g, listOf gv.toArray gn) :: (q, listOf qs.toArray qn) :: (p, listOf ps.toArray pn) :: (a, listOf av.toArray an) :: (wd, listOf wv.toArray wn) :: (L+3, o3) :: (L+5, o5) :: (L+9, o9) :: rest) → Q .next { s with heap := h, toks := tk }) ∧ ((gs ≠ [] ∨ (ns.length : Int) < c) → ∀ h tk m, Fr h₀ L h m → Q (.ret (.bool (!cn))) { s with heap := h, toks := tk }))
  : wpAny (model PySem.Challenge.rw_wn0018_01.row.prog w) (ktrTop dp un gd (Str.ofString "law") lawScope L fa cd (lawCells L) outer) (exec (lb 6) (envX (Str.ofString "law") lawScope L fa cd (lawCells L))) Q E s := by
  w_on
  revert KX; k_fill; intro KX
  conv in lb 6 => whnf
  repeat' ((fail_if_success (with_reducible show wpAny _ _ (eval (Expr.ListComp _ _ _ _) _) _ _ _)); first | (k_unfold; (try dsimp only)) | (k_end; wrow_close) | walk1 | (dsimp only; walk1) | (leave1; walk_say "STEP leave1"; try dsimp only) | fail "no step")
  all_goals first | (((with_reducible rename Fr _ _ _ _ => kF9); (with_reducible rename News _ _ _ _ => kN9)); exact hQ.1 (by first | assumption | (apply of_decide_eq_true; assumption)) (by omega) _ _ kF9 (fun p hp => kN9 p (by first | exact hp | exact .tail _ hp | exact .tail _ (.tail _ hp) | exact .tail _ (.tail _ (.tail _ hp)) | exact .tail _ (.tail _ (.tail _ (.tail _ hp))) | exact .tail _ (.tail _ (.tail _ (.tail _ (.tail _ hp)))) | exact .tail _ (.tail _ (.tail _ (.tail _ (.tail _ (.tail _ hp)))))))) | skip
  all_goals k_dflt (refine LCt.ListComp_T (F₀ := by k_asm) (by with_unfolding_all rfl) (by decide) (by rfl) (by decide) (by rfl) ?_)
  all_goals (repeat' ((fail_if_success (with_reducible show LCt.CompSrcT _ _ _ _ _ _ _ _ _ _ _ _ _ _ _)); first | (k_unfold; (try dsimp only)) | (k_end; wrow_close) | walk1 | (dsimp only; walk1) | (leave1; walk_say "STEP leave1"; try dsimp only) | fail "no step"))
  all_goals refine LCt.CompSrcT.ledger rfl (by k_asm) (by k_asm) (by k_mem) (by kmk_size) ?_
  all_goals intro g2
  all_goals refine kci_list (fun l u => l) hg (fun k' t' I' oI' C' oC' D' m' ys' l' h' tk' E' hk' hI' hC' hx' F' N' off' ne' mk' => ?_) ?_ (fun l k => Nat.le_succ _)
  · have off0 := off'
    simp only [LCg.Off3, and_true] at off'
    have hkk := hgm k' hk'
    have hkw := hgw k' hk'
    have hkt := hgt k' hk'
    have hkl := hal k' hk'
    k_steps
    · exfalso
      rename (_ != _) = true => hno
      rw [hkt, bne_self_eq_false] at hno; cases hno
    · (with_reducible rename Fr _ _ _ _ => kF9); (with_reducible rename News _ _ _ _ => kN9)
      refine LCg.CompEnd.intro kF9 kN9 _ ?_ off0 ?_ ⟨rfl, rfl⟩
      · first | exact fun _ h => h | kcf_all
      · first | lcg_src | exact Or.inr ⟨_, List.mem_cons_self, rfl, _, rfl⟩
  · unfold KPfDone
    intro ys hys hsz
    rw [fold_id] at hys
    unfold LCg.FinE
    intro D' h' tk' F' N' o1'
    have o0' := o1'
    (try simp only [LCg.Off1, and_true] at o1')
    dsimp only
    k_steps
    all_goals (with_reducible rename Fr _ _ _ _ => kF9)
    all_goals exact hQ.2 (by first | exact Or.inr (by assumption) | exact Or.inl (of_decide_eq_false (by assumption))) _ _ _ kF9
  · have off0 := off'
    simp only [LCg.Off3, and_true] at off'
    have hkk := hgm k' hk'
    have hkw := hgw k' hk'
    have hkt := hgt k' hk'
    have hkl := hal k' hk'
    k_steps
    · exfalso
      rename (_ != _) = true => hno
      rw [hkt, bne_self_eq_false] at hno; cases hno
    · (with_reducible rename Fr _ _ _ _ => kF9); (with_reducible rename News _ _ _ _ => kN9)
      refine LCg.CompEnd.intro kF9 kN9 _ ?_ off0 ?_ ⟨rfl, rfl⟩
      · first | exact fun _ h => h | kcf_all
      · first | lcg_src | exact Or.inr ⟨_, List.mem_cons_self, rfl, _, rfl⟩
  · unfold KPfDone
    intro ys hys hsz
    rw [fold_id] at hys
    unfold LCg.FinE
    intro D' h' tk' F' N' o1'
    have o0' := o1'
    (try simp only [LCg.Off1, and_true] at o1')
    dsimp only
    k_steps
    all_goals (with_reducible rename Fr _ _ _ _ => kF9)
    all_goals exact hQ.2 (by first | exact Or.inr (by assumption) | exact Or.inl (of_decide_eq_false (by assumption))) _ _ _ kF9
end Mine
end
section
open PySem PySem.W PyProof.Rows
set_option maxRecDepth 100000
set_option maxHeartbeats 8000000
namespace Mine
theorem S_mine (w : World) (mean : ExcName → Option Value) (mg mb : Str → Option Value) (dp un : Nat) (gd : Option (List Code)) (L : Addr) (outer : List Env) (A₀ : Around) (base h₀ : Heap) (m₀ : Str → Option Value) (s : Shared) (Q : Flow → Shared → Prop) (E : Value → Shared → Prop) (fa : Addr) (cd : Value) (rest : List (Addr × Obj)) (q : Addr) (vs : List Value) (qn : Nat) (ns : List Int) (o8 o10 : Obj) (v10 : Option Value)
  (B : Below A₀ base outer h₀) (F : Fr h₀ L s.heap m₀) (KX : (Mine.hd.heap_39 w.params).In h₀) (N : News h₀ L s.heap ((q, listOf vs.toArray qn) :: (L+8, o8) :: (L+10, o10) :: rest))
  (T : Top Mine.hd.view_39 [Str.ofString "_twin_re_1", Str.ofString "_twin_re_2", Str.ofString "_sre"] mean mg mb h₀) (hdp : dp + 16 < recursionLimit) (hun : un + 128 < cLine) (hq : IntsAre vs ns) (hx : ns.length ≤ 6) (hns : ∀ k ∈ ns, 0 ≤ k ∧ k < 6) (d8 : o8.data = .cell (some (.ref q))) (d10 : o10.data = .cell v10) (hq8 : q ≠ L + 10) (hoff : ∀ p ∈ rest, p.1 ≠ L + 10)
  (hQ : ∀ h tk t o, Fr h₀ L h m₀ → News h₀ L h ((q, listOf vs.toArray qn) :: (L+8, o8) :: (L+10, o) :: rest) → o.data = .cell (some (.int (ns.map fun k => (2 : Int) ^ k.toNat).sum t)) → Q .next { s with heap := h, toks := tk })
  : wpAny (model PySem.Challenge.rw_wn0018_01.row.prog w) (ktrTop dp un gd (Str.ofString "law") lawScope L fa cd (lawCells L) outer) (exec (lb 7) (envX (Str.ofString "law") lawScope L fa cd (lawCells L))) Q E s := by
  w_on
  revert KX; k_fill; intro KX
  conv in lb 7 => whnf
  repeat' ((fail_if_success (with_reducible show wpAny _ _ (eval (Expr.ListComp _ _ _ _) _) _ _ _)); first | (k_unfold; (try dsimp only)) | (k_end; wrow_close) | walk1 | (dsimp only; walk1) | (leave1; walk_say "STEP leave1"; try dsimp only) | fail "no step")
  (try dsimp only)
  k_dflt (refine LCg.ListComp_U (F₀ := by k_asm) (by with_unfolding_all rfl) (by decide) (by rfl) (by decide) (by rfl) ?_)
  repeat' ((fail_if_success (with_reducible show LCg.CompSrc _ _ _ _ _ _ _ _ _ _ _ _ _ _)); first | (k_unfold; (try dsimp only)) | (k_end; wrow_close) | walk1 | (dsimp only; walk1) | (leave1; walk_say "STEP leave1"; try dsimp only) | fail "no step")
  refine LCg.CompSrc.ledger rfl (by k_asm) (by k_asm) (by k_mem) (by kmk_size) ?_
  intro g2
  refine kcf_list (fun k => (2 : Int) ^ k.toNat) hq (fun k' t' I' oI' C' oC' D' m' ys' h' tk' E' hk' hC' hx' F' N' off' ne' mk' => ?_) ?_
  · simp only [LCg.Off3, and_true] at off'
    have hkk := hns k' hk'
    k_steps
  · unfold KPfDone
    intro ys hys
    unfold LCg.FinE
    intro D' h' tk' F' N' o1'
    (try simp only [LCg.Off1, and_true] at o1')
    dsimp only
    repeat' ((fail_if_success (with_reducible show wpAny _ _ (storeName _ _ _) _ _ _)); first | (k_unfold; (try dsimp only)) | (k_end; wrow_close) | walk1 | (dsimp only; walk1) | (leave1; walk_say "STEP leave1"; try dsimp only) | fail "no step")
    (with_reducible rename Fr _ _ _ _ => kF9); (with_reducible rename News _ _ _ _ => kN9)
    refine stCell (own := [(_, _), (_, _)]) kF9 (fun p hp => kN9 p (.tail _ hp)) d10 (off2 hq8 (by k_ne)) hoff ?_
    intro h7 o7 F7 N7 d7
    exact hQ _ _ _ _ F7 N7 d7
end Mine
end
section
open PySem PySem.W PyProof.Rows
set_option maxRecDepth 100000
set_option maxHeartbeats 8000000
namespace Mine
theorem S_friends (w : World) (mean : ExcName → Option Value) (mg mb : Str → Option Value) (dp un : Nat) (gd : Option (List Code)) (L : Addr) (outer : List Env) (A₀ : Around) (base h₀ : Heap) (m₀ : Str → Option Value) (s : Shared) (Q : Flow → Shared → Prop) (E : Value → Shared → Prop) (fa : Addr) (cd : Value) (rest : List (Addr × Obj)) (f : Addr) (fv : List Value) (fn : Nat) (fs : List Int) (q : Addr) (qs : List Value) (qn : Nat) (ns : List Int) (o1 o6 o7 o8 o10 : Obj) (n v mi : Int) (tn tv tm : Tok)
  (B : Below A₀ base outer h₀) (F : Fr h₀ L s.heap m₀) (KX : (Mine.hd.heap_39 w.params).In h₀) (N : News h₀ L s.heap ((f, listOf fv.toArray fn) :: (q, listOf qs.toArray qn) :: (L+1, o1) :: (L+7, o7) :: (L+8, o8) :: (L+10, o10) :: (L+6, o6) :: rest))
  (T : Top Mine.hd.view_39 [Str.ofString "_twin_re_1", Str.ofString "_twin_re_2", Str.ofString "_sre"] mean mg mb h₀) (hdp : dp + 16 < recursionLimit) (hun : un + 128 < cLine) (hf : IntsAre fv fs) (hfl : (fs.length : Int) = n) (hn : 0 ≤ n ∧ n ≤ 6) (hq : IntsAre qs ns) (hx : ns.length ≤ 6) (hv : 0 ≤ v ∧ v < n) (hfs : ∀ k : Int, 0 ≤ k → k < n → 0 ≤ fs.getD k.toNat 0 ∧ fs.getD k.toNat 0 < 64) (hm : 0 ≤ mi ∧ mi < 64) (d1 : o1.data = .cell (some (.int n tn))) (d6 : o6.data = .cell (some (.ref f))) (d7 : o7.data = .cell (some (.int v tv))) (d8 : o8.data = .cell (some (.ref q))) (d10 : o10.data = .cell (some (.int mi tm))) (hf6 : f ≠ L + 6) (hq6 : q ≠ L + 6) (hoff : ∀ p ∈ rest, p.1 ≠ L + 6)
  (hQ : ∀ h tk D ws k o, Fr h₀ L h m₀ → News h₀ L h ((D, listOf (List.toArray ws) k) :: (f, listOf fv.toArray fn) :: (q, listOf qs.toArray qn) :: (L+1, o1) :: (L+7, o7) :: (L+8, o8) :: (L+10, o10) :: (L+6, o) :: rest) → IntsAre ws ((rangeKs 0 (n - 0).toNat).map fun u => fs.getD u.toNat 0 + (if (ns.any fun x => x == u) = true then (2 : Int) ^ v.toNat else if u = v then mi else 0)) → o.data = .cell (some (.ref D)) → (∀ r ∈ (f, listOf fv.toArray fn) :: (q, listOf qs.toArray qn) :: (L+1, o1) :: (L+7, o7) :: (L+8, o8) :: (L+10, o10) :: (L+6, o6) :: rest, r.1 ≠ D) → Q .next { s with heap := h, toks := tk })
  : wpAny (model PySem.Challenge.rw_wn0018_01.row.prog w) (ktrTop dp un gd (Str.ofString "law") lawScope L fa cd (lawCells L) outer) (exec (lb 8) (envX (Str.ofString "law") lawScope L fa cd (lawCells L))) Q E s := by
  w_on
  revert KX; k_fill; intro KX
  conv in lb 8 => whnf
  repeat' ((fail_if_success (with_reducible show wpAny _ _ (eval (Expr.ListComp _ _ _ _) _) _ _ _)); first | (k_unfold; (try dsimp only)) | (k_end; wrow_close) | walk1 | (dsimp only; walk1) | (leave1; walk_say "STEP leave1"; try dsimp only) | fail "no step")
  (try dsimp only)
  k_dflt (refine LCg.ListComp_U (F₀ := by k_asm) (by with_unfolding_all rfl) (by decide) (by rfl) (by decide) (by rfl) ?_)
  repeat' ((fail_if_success (with_reducible show LCg.CompSrc _ _ _ _ _ _ _ _ _ _ _ _ _ _)); first | (k_unfold; (try dsimp only)) | (k_end; wrow_close) | walk1 | (dsimp only; walk1) | (leave1; walk_say "STEP leave1"; try dsimp only) | fail "no step")
  refine LCg.CompSrc.range rfl (by k_asm) (by k_asm) (by assumption) (small_one (by omega) (by omega) (by omega) (by omega)) (rangeSize_nat _ _) (sz_r0 hn) ?_
  intro g2
  refine kcf_range (fun u => fs.getD u.toNat 0 + (if (ns.any fun x => x == u) = true then (2 : Int) ^ v.toNat else if u = v then mi else 0)) (fun k' t' I' oI' C' oC' D' m' ys' h' tk' E' hlo hhi hC' hx' F' N' off' ne' mk' => ?_) ?_
  · have off0 := off'
    simp only [LCg.Off3, and_true] at off'
    have hk6 : 0 ≤ k' ∧ k' < n := rng0 hlo hhi hn.1
    have hfk := hfs k' hk6.1 hk6.2
    k_steps
    · exact ⟨rfl, _, congrArg (Value.int · _) (by rw [if_pos (by assumption)])⟩
    · exact ⟨rfl, _, congrArg (Value.int · _) (by rw [if_neg (ne_true_of_eq_false (by assumption)), if_pos (by assumption)])⟩
    · exact ⟨rfl, _, congrArg (Value.int · _) (by rw [if_neg (ne_true_of_eq_false (by assumption)), if_neg (by assumption)])⟩
  · unfold KPfDone
    intro ys hys
    unfold LCg.FinE
    intro D' h' tk' F' N' o1'
    have o0' := o1'
    (try simp only [LCg.Off1, and_true] at o1')
    dsimp only
    repeat' ((fail_if_success (with_reducible show wpAny _ _ (storeName _ _ _) _ _ _)); first | (k_unfold; (try dsimp only)) | (k_end; wrow_close) | walk1 | (dsimp only; walk1) | (leave1; walk_say "STEP leave1"; try dsimp only) | fail "no step")
    (with_reducible rename Fr _ _ _ _ => kF9); (with_reducible rename News _ _ _ _ => kN9)
    refine stCell (own := [(_, _), (_, _), (_, _), (_, _), (_, _), (_, _), (_, _)]) kF9 (fun p hp => kN9 p hp) d6 ?_ hoff ?_
    · intro p hp
      simp only [List.mem_cons, List.not_mem_nil, or_false] at hp
      rcases hp with rfl | rfl | rfl | rfl | rfl | rfl | rfl
      · exact (off1_all o0' (L+6, o6) (by simp)).symm
      · exact hf6
      · exact hq6
      all_goals (dsimp only; k_ne)
    intro h7 o7' F7 N7 d7'
    exact hQ _ _ _ _ _ _ F7 N7 hys d7' (off1_all o0')
end Mine
end
section
open PySem PySem.W PyProof.Rows
set_option maxRecDepth 100000
set_option maxHeartbeats 8000000
namespace Mine
theorem S_post (w : World) (mean : ExcName → Option Value) (mg mb : Str → Option Value) (dp un : Nat) (gd : Option (List Code)) (L : Addr) (outer : List Env) (A₀ : Around) (base h₀ : Heap) (m₀ : Str → Option Value) (s : Shared) (Q : Flow → Shared → Prop) (E : Value → Shared → Prop) (fa : Addr) (cd : Value) (rest : List (Addr × Obj)) (a p : Addr) (o5 o9 : Obj) (v5 : Option Value)
  (B : Below A₀ base outer h₀) (F : Fr h₀ L s.heap m₀) (KX : (Mine.hd.heap_39 w.params).In h₀) (N : News h₀ L s.heap ((L+9, o9) :: (L+5, o5) :: rest))
  (T : Top Mine.hd.view_39 [Str.ofString "_twin_re_1", Str.ofString "_twin_re_2", Str.ofString "_sre"] mean mg mb h₀) (hdp : dp + 16 < recursionLimit) (hun : un + 128 < cLine) (d9 : o9.data = .cell (some (.ref a))) (d5 : o5.data = .cell v5) (hoff : ∀ p ∈ rest, p.1 ≠ L + 5)
  (hQ : ∀ h tk o, Fr h₀ L h m₀ → News h₀ L h ((L+9, o9) :: (L+5, o) :: rest) → o.data = .cell (some (.ref a)) → Q .next { s with heap := h, toks := tk })
  : wpAny (model PySem.Challenge.rw_wn0018_01.row.prog w) (ktrTop dp un gd (Str.ofString "law") lawScope L fa cd (lawCells L) outer) (exec (lb 9) (envX (Str.ofString "law") lawScope L fa cd (lawCells L))) Q E s := by
  w_on
  revert KX; k_fill; intro KX
  conv in lb 9 => whnf
  repeat' ((fail_if_success (with_reducible show wpAny _ _ (storeName _ _ _) _ _ _)); first | (k_unfold; (try dsimp only)) | (k_end; wrow_close) | walk1 | (dsimp only; walk1) | (leave1; walk_say "STEP leave1"; try dsimp only) | fail "no step")
  (with_reducible rename Fr _ _ _ _ => kF9); (with_reducible rename News _ _ _ _ => kN9)
  refine stCell (own := [(_, _)]) kF9 kN9 d5 (off1 (by k_ne)) hoff ?_
  intro h7 o7 F7 N7 d7
  exact hQ _ _ _ F7 N7 d7
end Mine
end
section
open PySem PySem.W PyProof.Rows
set_option maxRecDepth 100000
set_option maxHeartbeats 8000000
namespace Mine
local macro_rules | `(tactic| k_all) => `(tactic| assumption)
local macro_rules | `(tactic| walk_at "call ref") => `(tactic| (k_here; k_dflt (refine' C_mail _ _ _ _ _ _ _ _ _ _ _ _ _ ?h0 ?h1 ?h2 ?h3 _ _ _ _ _ _ _ _ _ _ _ _ _ _ _ _ _ ?k1 ?k2 ?k3 ?k4 ?k5 ?kK ?kd ?ku ?kR; (case k1 => k_asm); (case k2 => k_asm); (case k3 => k_asm); (case k4 => k_asm); (case k5 => k_asm); (case kK => first | exact rfl | assumption); (case kd => ktr_room); (case ku => ktr_units); (case h0 => assumption); (case h1 => assumption); (case h2 => assumption); (case h3 => assumption);); intro r9 tl9 h9 tk9 hR9 F9 N9; obtain ⟨hE9, t9, hV9⟩ := hR9; subst hE9; subst hV9; (try simp only [List.nil_append] at N9); (try dsimp only)))
theorem S_for10 (w : World) (mean : ExcName → Option Value) (mg mb : Str → Option Value) (dp un : Nat) (gd : Option (List Code)) (L : Addr) (outer : List Env) (A₀ : Around) (base h₀ : Heap) (m₀ : Str → Option Value) (s : Shared) (Q : Flow → Shared → Prop) (E : Value → Shared → Prop) (fa : Addr) (cd : Value) (rest : List (Addr × Obj)) (q : Addr) (qs : List Value) (qn : Nat) (ns : List Int) (p : Addr) (ps : List Value) (pn : Nat) (xs : List Str) (wd : Addr) (wv : List Value) (wn : Nat) (ws : List Int) (ed : Addr) (ev : List Value) (en : Nat) (es : List Str) (f : Addr) (fv : List Value) (fn : Nat) (fs : List Int) (o1 o3 o4 o5 o6 o7 o8 : Obj) (n v : Int) (tn tv : Tok) (cn : Bool)
  (B : Below A₀ base outer h₀) (F : Fr h₀ L s.heap (fun y => if y = Str.ofString "can" then some (.bool cn) else m₀ y)) (KX : (Mine.hd.heap_39 w.params).In h₀) (N : News h₀ L s.heap ((q, listOf qs.toArray qn) :: (p, listOf ps.toArray pn) :: (wd, listOf wv.toArray wn) :: (ed, listOf ev.toArray en) :: (f, listOf fv.toArray fn) :: (L+1, o1) :: (L+3, o3) :: (L+4, o4) :: (L+5, o5) :: (L+6, o6) :: (L+7, o7) :: (L+8, o8) :: rest))
  (T : Top Mine.hd.view_39 [Str.ofString "_twin_re_1", Str.ofString "_twin_re_2", Str.ofString "_sre"] mean mg mb h₀) (hdp : dp + 16 < recursionLimit) (hun : un + 128 < cLine) (hq : IntsAre qs ns) (hx : ns.length ≤ 6) (hp : StrsAre ps xs) (hpl : (xs.length : Int) = n) (hw : IntsAre wv ws) (hwl : (ws.length : Int) = n) (he : StrsAre ev es) (hel : (es.length : Int) = n) (hf : IntsAre fv fs) (hfl : (fs.length : Int) = n) (hn : 0 ≤ n ∧ n ≤ 6) (hv : 0 ≤ v ∧ v < n) (d1 : o1.data = .cell (some (.int n tn))) (d3 : o3.data = .cell (some (.ref wd))) (d4 : o4.data = .cell (some (.ref ed))) (d5 : o5.data = .cell (some (.ref p))) (d6 : o6.data = .cell (some (.ref f))) (d7 : o7.data = .cell (some (.int v tv))) (d8 : o8.data = .cell (some (.ref q))) (hE : PassesOwn (model PySem.Challenge.rw_wn0018_01.row.prog w) (ktrTop dp un gd (Str.ofString "law") lawScope L fa cd (lawCells L) outer) (envX (Str.ofString "law") lawScope L fa cd (lawCells L)) E) (hu : ∀ u : Int, v ≤ u → u < n → (0 ≤ ws.getD u.toNat 0 ∧ ws.getD u.toNat 0 ≤ 5) ∧ (es.getD u.toNat Str.empty).length ≤ 2 ∧ (0 ≤ fs.getD u.toNat 0 ∧ fs.getD u.toNat 0 < 64) ∧ (mailF (ws.getD u.toNat 0) (es.getD u.toNat Str.empty) (fs.getD u.toNat 0) (if u < v + 1 then u else v + 1)).length ≤ 100 ∧ xs.getD u.toNat Str.empty = mailF (ws.getD u.toNat 0) (es.getD u.toNat Str.empty) (fs.getD u.toNat 0) (if u < v + 1 then u else v + 1) ++ Txt.mul (Str.ofString " ") (if u = v then (ns.length : Int) else ws.getD u.toNat 0))
  (hQ : ∀ h tk m, m (Str.ofString "can") = some (.bool cn) → Fr h₀ L h m → News h₀ L h ((q, listOf qs.toArray qn) :: (p, listOf ps.toArray pn) :: (wd, listOf wv.toArray wn) :: (ed, listOf ev.toArray en) :: (f, listOf fv.toArray fn) :: (L+1, o1) :: (L+3, o3) :: (L+4, o4) :: (L+5, o5) :: (L+6, o6) :: (L+7, o7) :: (L+8, o8) :: rest) → Q .next { s with heap := h, toks := tk })
  : wpAny (model PySem.Challenge.rw_wn0018_01.row.prog w) (ktrTop dp un gd (Str.ofString "law") lawScope L fa cd (lawCells L) outer) (exec (lb 10) (envX (Str.ofString "law") lawScope L fa cd (lawCells L))) Q E s := by
  w_on
  revert KX; k_fill; intro KX
  conv in lb 10 => whnf
  refine ForR (h₀ := h₀) rfl ?_ (hE := hE)
  k_steps
  refine ⟨_, _, _, _, _, _, (n - v).toNat, _, _, fun i m nw => nw = (q, listOf qs.toArray qn) :: (p, listOf ps.toArray pn) :: (wd, listOf wv.toArray wn) :: (ed, listOf ev.toArray en) :: (f, listOf fv.toArray fn) :: (L+1, o1) :: (L+3, o3) :: (L+4, o4) :: (L+5, o5) :: (L+6, o6) :: (L+7, o7) :: (L+8, o8) :: rest ∧ m (Str.ofString "can") = some (.bool cn), rfl, by assumption, ?_, ?_, by assumption, by assumption, ⟨rfl, by rfl⟩, ?_, ?_⟩
  · exact small_one (by omega) (by omega) (by omega) (by omega)
  · exact rangeSize_nat _ _
  · rintro i m₁ nw I oI hh tk9 t9 hi9 ⟨rfl, hm9⟩ F9 N9 hI9 hLI
    replace F9 : Fr h₀ L hh _ := Fr_ex1 F9 hm9
    replace N9 : News h₀ L hh ((I, oI) :: (q, listOf qs.toArray qn) :: (p, listOf ps.toArray pn) :: (wd, listOf wv.toArray wn) :: (ed, listOf ev.toArray en) :: (f, listOf fv.toArray fn) :: (L+1, o1) :: (L+3, o3) :: (L+4, o4) :: (L+5, o5) :: (L+6, o6) :: (L+7, o7) :: (L+8, o8) :: rest) := N9
    have hI0 := hI9
    obtain ⟨u, hu0⟩ : ∃ u : Int, u = v + (i : Int) := ⟨_, rfl⟩
    rw [← hu0]
    have hu1 : v ≤ u ∧ u < n := by omega
    obtain ⟨a1, a2, a3, a4, a5⟩ := hu u hu1.1 hu1.2
    have a6 : 0 ≤ (if u < v + 1 then u else v + 1) ∧ (if u < v + 1 then u else v + 1) ≤ 6 := by split <;> omega
    k_steps
    all_goals first
      | (exfalso; rename (_ != _) = true => hno; rw [a5, if_pos (show u = v by assumption), bne_self_eq_false] at hno; cases hno)
      | (exfalso; rename (_ != _) = true => hno; rw [a5, if_neg (show ¬ u = v by assumption), bne_self_eq_false] at hno; cases hno)
      | ((with_reducible rename Fr _ _ _ _ => kF9); (with_reducible rename News _ _ _ _ => kN9); exact TurnEnd.next kF9 (fun p hp => kN9 p (by first | exact hp | kcf_m)) hI0 ⟨rfl, by rfl⟩)
      | skip
    all_goals ((refine' C_mail _ _ _ _ _ _ _ _ _ _ _ _ _ ?h0 ?h1 ?h2 ?h3 _ _ _ _ _ _ _ _ _ _ _ _ _ _ _ _ _ ?k1 ?k2 ?k3 ?k4 ?k5 ?kK ?kd ?ku ?kR; (case k1 => k_asm); (case k2 => k_asm); (case k3 => k_asm); (case k4 => k_asm); (case k5 => k_asm); (case kK => first | exact rfl | assumption); (case kd => ktr_room); (case ku => ktr_units); (case h0 => assumption); (case h1 => assumption); (case h2 => assumption); (case h3 => assumption);); intro r9 tl9 h9 tk9 hR9 F9 N9; obtain ⟨hE9, t9, hV9⟩ := hR9; subst hE9; subst hV9; (try simp only [List.nil_append] at N9); (try dsimp only))
    all_goals k_steps
    all_goals first
      | (exfalso; rename (_ != _) = true => hno; rw [a5, if_pos (show u = v by assumption), bne_self_eq_false] at hno; cases hno)
      | (exfalso; rename (_ != _) = true => hno; rw [a5, if_neg (show ¬ u = v by assumption), bne_self_eq_false] at hno; cases hno)
      | ((with_reducible rename Fr _ _ _ _ => kF9); (with_reducible rename News _ _ _ _ => kN9); exact TurnEnd.next kF9 (fun p hp => kN9 p (by first | exact hp | kcf_m)) hI0 ⟨rfl, by rfl⟩)
      | fail "left"
  · rintro m₁ nw hh tk9 ⟨rfl, hm9⟩ F9 N9
    exact hQ _ _ _ hm9 F9 N9
end Mine
end
section
open PySem PySem.W PyProof.Rows
set_option maxRecDepth 100000
set_option maxHeartbeats 8000000
namespace Mine
local macro_rules | `(tactic| walk_at "mine none") => `(tactic| skip)
local macro_rules | `(tactic| k_all) => `(tactic| assumption)
local macro_rules | `(tactic| walk_at "call ref") => `(tactic| (k_here; k_dflt (refine' C_granted _ _ _ _ _ _ _ _ _ ?h0 ?h1 ?h2 _ _ _ _ _ _ _ _ _ _ _ _ _ _ _ _ _ ?k1 ?k2 ?k3 ?k4 ?k5 ?kK ?kd ?ku ?kR; (case k1 => k_asm); (case k2 => k_asm); (case k3 => k_asm); (case k4 => k_asm); (case k5 => k_asm); (case kK => first | exact rfl | assumption); (case kd => ktr_room); (case ku => ktr_units); (case h0 => assumption); (case h1 => assumption); (case h2 => assumption);); intro r9 tl9 h9 tk9 hR9 F9 N9; obtain ⟨hE9, d9, hp9, hs9, hV9⟩ := hR9; subst hE9; subst hV9; (try simp only [List.nil_append] at N9); (try dsimp only)))
theorem S_if11 (w : World) (mean : ExcName → Option Value) (mg mb : Str → Option Value) (dp un : Nat) (gd : Option (List Code)) (L : Addr) (outer : List Env) (A₀ : Around) (base h₀ : Heap) (m₀ : Str → Option Value) (s : Shared) (Q : Flow → Shared → Prop) (E : Value → Shared → Prop) (fa : Addr) (cd : Value) (rest : List (Addr × Obj)) (p : Addr) (ps : List Value) (pn : Nat) (xs : List Str) (o1 o5 o7 : Obj) (n v : Int) (tn tv : Tok) (cn : Bool)
  (B : Below A₀ base outer h₀) (F : Fr h₀ L s.heap (fun y => if y = Str.ofString "can" then some (.bool cn) else m₀ y)) (KX : (Mine.hd.heap_39 w.params).In h₀) (N : News h₀ L s.heap ((p, listOf ps.toArray pn) :: (L+1, o1) :: (L+5, o5) :: (L+7, o7) :: rest))
  (T : Top Mine.hd.view_39 [Str.ofString "_twin_re_1", Str.ofString "_twin_re_2", Str.ofString "_sre"] mean mg mb h₀) (hdp : dp + 16 < recursionLimit) (hun : un + 128 < cLine) (hp : StrsAre ps xs) (hpl : (xs.length : Int) = n) (hn : 0 ≤ n ∧ n ≤ 6) (hv : 0 ≤ v ∧ v < n) (d1 : o1.data = .cell (some (.int n tn))) (d5 : o5.data = .cell (some (.ref p))) (d7 : o7.data = .cell (some (.int v tv))) (hK : ∀ u : Int, v + 1 ≤ u → u < n → (Builtin.Str.occurrences (xs.getD u.toNat Str.empty) (Str.ofString "K") 0 (xs.getD u.toNat Str.empty).length 1).isEmpty = false ∧ 0 ≤ Txt.find (xs.getD u.toNat Str.empty) (Str.ofString "K") ∧ Txt.find (xs.getD u.toNat Str.empty) (Str.ofString "K") ≤ 6) (hgr : ∀ d : List Int, d.Perm ((rangeKs (v + 1) (n - (v + 1)).toNat).map fun u => Txt.find (xs.getD u.toNat Str.empty) (Str.ofString "K")) → d.Pairwise (fun x y => y ≤ x) → gr d = cn)
  (hQ : ∀ h tk, Fr h₀ L h (fun y => if y = Str.ofString "can" then some (.bool cn) else m₀ y) → News h₀ L h ((p, listOf ps.toArray pn) :: (L+1, o1) :: (L+5, o5) :: (L+7, o7) :: rest) → Q .next { s with heap := h, toks := tk })
  : wpAny (model PySem.Challenge.rw_wn0018_01.row.prog w) (ktrTop dp un gd (Str.ofString "law") lawScope L fa cd (lawCells L) outer) (exec (lb 11) (envX (Str.ofString "law") lawScope L fa cd (lawCells L))) Q E s := by
  w_on
  revert KX; k_fill; intro KX
  conv in lb 11 => whnf
  repeat' ((fail_if_success (with_reducible show wpAny _ _ (eval (Expr.ListComp _ _ _ _) _) _ _ _)); first | (k_unfold; (try dsimp only)) | (k_end; wrow_close) | walk1 | (dsimp only; walk1) | (leave1; walk_say "STEP leave1"; try dsimp only) | fail "no step")
  (try dsimp only)
  k_dflt (refine LCg.ListComp_U (F₀ := by k_asm) (by with_unfolding_all rfl) (by decide) (by rfl) (by decide) (by rfl) ?_)
  repeat' ((fail_if_success (with_reducible show LCg.CompSrc _ _ _ _ _ _ _ _ _ _ _ _ _ _)); first | (k_unfold; (try dsimp only)) | (k_end; wrow_close) | walk1 | (dsimp only; walk1) | (leave1; walk_say "STEP leave1"; try dsimp only) | fail "no step")
  refine LCg.CompSrc.range rfl (by k_asm) (by k_asm) (by assumption) (small_one (by omega) (by omega) (by omega) (by omega)) (rangeSize_nat _ _) (sz_r1 hn hv) ?_
  intro g2
  refine kcf_range (fun u => Txt.find (xs.getD u.toNat Str.empty) (Str.ofString "K")) (fun k' t' I' oI' C' oC' D' m' ys' h' tk' E' hlo hhi hC' hx' F' N' off' ne' mk' => ?_) ?_
  · have off0 := off'
    simp only [LCg.Off3, and_true] at off'
    have hk6 : v + 1 ≤ k' ∧ k' < n := rng1 hlo hhi hv.2
    have hfk := hK k' hk6.1 hk6.2
    k_steps
    all_goals first
      | (exfalso; rename (Builtin.Str.occurrences _ _ _ _ _).isEmpty = true => hno; rw [hfk.1] at hno; cases hno)
      | fail "left"
  · unfold KPfDone
    intro ys hys
    unfold LCg.FinE
    intro D' h' tk' F' N' o1'
    (try simp only [LCg.Off1, and_true] at o1')
    dsimp only
    have h99 : ((rangeKs (v + 1) (n - (v + 1)).toNat).map fun u => Txt.find (xs.getD u.toNat Str.empty) (Str.ofString "K")).length ≤ 6 := by rw [List.length_map, rangeKs_length]; omega
    have h98 : ∀ x ∈ ((rangeKs (v + 1) (n - (v + 1)).toNat).map fun u => Txt.find (xs.getD u.toNat Str.empty) (Str.ofString "K")), 0 ≤ x ∧ x ≤ 6 := by
      intro x hx
      obtain ⟨u, hu, rfl⟩ := List.mem_map.mp hx
      have hm := mem_rangeKs hu
      exact (hK u hm.1 (by omega)).2
    k_steps
    · exfalso
      rename List.Perm _ _ => hp9; rename List.Pairwise _ _ => hs9; have he := hgr _ hp9 hs9
      rename (gr _ != _) = true => hno
      rw [he, bne_self_eq_false] at hno; cases hno
    · (with_reducible rename Fr _ _ _ _ => kF9); (with_reducible rename News _ _ _ _ => kN9)
      exact hQ _ _ kF9 (fun p hp => kN9 p (by first | exact hp | kcf_m))
end Mine
end
section
open PySem PySem.W PyProof.Rows PySem.Calls PyProof.Rows.LCg
set_option maxRecDepth 100000
set_option maxHeartbeats 4000000
namespace Mine
section
variable {prog : Program} {w : World} {A : Around} {E : Value → Shared → Prop} {s : Shared} {h₀ : Heap} {L : Addr} {m : Str → Option Value} {env : Env}
/-- what stands behind the source of «for i, g in enumerate(list)» -/
noncomputable def EnumPost (prog : Program) (w : World) (A : Around) (h₀ : Heap) (L : Addr) (m : Str → Option Value) (env : Env) (elt : Expr) (x y : Str) (scope : Scope) (cl : List (Str × Addr)) (z : Str) (Q : Flow → Shared → Prop) (xv : Value) (s₁ : Shared) : Prop :=
  ∃ (e it l : Addr) (items : Array Value) (k : Nat) (news : List (Addr × Obj)) (J : Nat → List Value → Prop),
    xv = .ref e ∧ e ≠ it ∧ l ≠ e ∧ l ≠ it ∧ A.handled = none ∧ items.size ≤ sizeLine ∧ (∃ old, IsEnum s₁.heap e it 0 old) ∧ s₁.heap.IsListIter it l 0 ∧
    Fr h₀ L s₁.heap m ∧ News h₀ L s₁.heap news ∧ (l, listOf items k) ∈ news ∧ L ≠ e ∧ L ≠ it ∧ h₀.get? e = none ∧ h₀.get? it = none ∧ (∀ p ∈ news, p.1 ≠ e ∧ p.1 ≠ it) ∧ J 0 [] ∧
    (∀ i ys oE oI C oC D m₂ h tk t v (E' : Value → Shared → Prop), items[i]? = some v → J i ys → LCg.NsObj oC m₂ → m₂ x = some (.int (i : Int) t) → m₂ y = some v → Fr h₀ L h m → News h₀ L h ((e, oE) :: (it, oI) :: (C, oC) :: (D, LCg.lst ys) :: news) →
      wpAny (model prog w) A (eval elt (compEnvC scope cl C env)) (fun z s' => ∃ h' tk', s' = { s₁ with heap := h', toks := tk' } ∧ Fr h₀ L h' m ∧ News h₀ L h' ((e, oE) :: (it, oI) :: (C, oC) :: (D, LCg.lst ys) :: news) ∧ J (i + 1) (ys ++ [z])) E' { s₁ with heap := h, toks := tk }) ∧
    (∀ ys D h tk, J items.size ys → Fr h₀ L h (fun k => if k = z then some (.ref D) else m k) → News h₀ L h ((D, LCg.lst ys) :: news) → (∀ p ∈ news, p.1 ≠ D) → Q .next { s₁ with heap := h, toks := tk })
theorem Assign_enum {elt iter : Expr} {x y z : Str} {px py pz tp : Pos} {tk} {scope : Scope} {cl : List (Str × Addr)} {pos spos : Pos} {Q : Flow → Shared → Prop} (hLz : env.locals = L)
    (hsw : swapsWith (.ListComp elt [⟨.Tuple [.Name x px, .Name y py] tk tp, iter, [], 0⟩] scope pos) (some (.Name z pz)) spos.line env = pure true)
    (hz : env.kindOf z = some .local) (hp : (env.scope.kind == .class || (env.scope.kind == .module && env.locals != env.globals)) = false)
    (hclos : closureFor scope env = pure cl) (hcell : ∀ y ∈ scope.names, y.2 ≠ .cell) (hkind : scope.kind = .function)
    (hnames : ∀ y ∈ scope.names, y.2 = .local → scope.names.lookup y.1 = some .local) (hx : scope.names.lookup x = some .local) (hy : scope.names.lookup y = some .local) (hxy : x ≠ y)
    (h : wpAny (model prog w) A (eval iter env) (EnumPost prog w A h₀ L m env elt x y scope cl z Q) E s)
    (hs : ∀ x, foldedSetIterable iter env x = pure x := by intro _; rfl) :
    wpAny (model prog w) A (exec (.Assign [.Name z pz] (.ListComp elt [⟨.Tuple [.Name x px, .Name y py] tk tp, iter, [], 0⟩] scope pos) spos) env) Q E s := by
  subst hLz
  rw [exec_Assign_Name_used _ _ _ _ hsw]
  refine wpAny_bind (wpAny_standAt (wpAny_bind ?_))
  show wpAny _ A (do let _ ← comprehension (.ListComp elt [⟨.Tuple [.Name x px, .Name y py] tk tp, iter, [], 0⟩] scope pos) scope env _ (newList []) false (eval iter env) (some (assign (.Name z pz) env))) _ _ s
  refine wpAny_bind (wpAny_mono (wpAny_comprehension_free (use := some (assign (.Name z pz) env)) (Q := fun _ s' => Q .next s') rfl hs hclos hkind hnames
    (wpAny_mono h (fun xv s₁ h₁ => ?_) fun _ _ e => e)) (fun _ s' hq => wpAny_pure (wpAny_pure hq)) fun _ _ e => e)
  obtain ⟨e, it, l, items, k, news, J, rfl, hei, hle, hli, hh, hsz, ⟨old, he⟩, hit, F, N, hl, hLe, hLi, h0e, h0i, off, hJ, turn, fin⟩ := h₁
  refine wpAny_pyIter_enum he ?_
  refine wpAny_newObj_type (wpAny_newFunctionEnv hcell (by intro y hy; simp at hy) (fun h₁ hns₁ hsb₁ => ?_) hkind)
  dsimp only at hns₁ hsb₁ ⊢
  generalize hD : s₁.heap.objs.size = D at *
  generalize hH : s₁.heap.push { cls := .type "list", dict := none, data := .seq ([] : List Value).toArray } = H at *
  have hHs : H.objs.size = D + 1 := by rw [← hH, Heap.size_push, hD]
  generalize hC : H.objs.size = C at *
  have old1 : ∀ b o, s₁.heap.get? b = some o → H.get? b = some o := fun b o q => hH ▸ Heap.get?_push_of_some _ q
  have lt1 : ∀ b o, s₁.heap.get? b = some o → b < D := fun b o q => hD ▸ Heap.lt_size q
  have hDC : (D : Nat) ≠ C := by omega
  have hDltC : (D : Nat) < C := by omega
  have ltC : ∀ b o, s₁.heap.get? b = some o → b ≠ C ∧ b ≠ D := fun b o q =>
    ⟨Nat.ne_of_lt (Nat.lt_trans (lt1 b o q) hDltC), Nat.ne_of_lt (lt1 b o q)⟩
  have keep1 : ∀ b o, s₁.heap.get? b = some o → h₁.get? b = some o := fun b o q => hsb₁.extBut b o (ltC b o q).1 (Heap.get?_push_of_some _ (old1 b o q))
  have hDo : h₁.get? D = some (LCg.lst []) := hsb₁.extBut _ _ hDC (Heap.get?_push_of_some _ (hD ▸ hH ▸ Heap.get?_push_size _ rfl))
  have fresh0 : ∀ a, D ≤ a → h₀.get? a = none := fun a ha => by
    cases q : h₀.get? a with
    | none => rfl
    | some o' => exact absurd (lt1 _ _ (F.keep a o' q)) (Nat.not_lt.mpr ha)
  have hLD : env.locals < D := hD ▸ F.ns.lt
  have hltE : e < D := lt1 _ _ he
  have hltI : it < D := by obtain ⟨o, q, _⟩ := hit; exact lt1 _ _ q
  have hnD : ∀ p ∈ news, p.1 < D := fun p hp => lt1 _ _ (N p hp).1
  have hD0 : h₀.get? D = none := fresh0 _ (Nat.le_refl _)
  have hC0 : h₀.get? C = none := fresh0 _ (Nat.le_of_lt hDltC)
  have W := WalksT.enumerate (prog := prog) (w := w) hh e it l hei hle hli items
  have loop : ∀ s₃ : Shared, s₃ = { s₁ with heap := h₁, toks := s₁.toks + ([] : List (Str × Value)).length } →
      codeAny (model prog w) A (.compLoop (.ListComp elt [⟨.Tuple [.Name x px, .Name y py] tk tp, iter, [], 0⟩] scope pos) 0 (.ref e) (.ref D) (compEnvC scope cl C env))
        (compPost (model prog w) A E (some (assign (.Name z pz) env)) (fun _ s' => Q .next s') (.ref D) C) s₃ := by
    rintro s₃ rfl
    refine LCp.codeAny_compLoop_pair
      (fun k s' => ∃ h' tk i ys m', s' = { s₁ with heap := h', toks := tk } ∧ i ≤ items.size ∧ k = items.size + 1 - i ∧ ys.length = i ∧ (∃ old, IsEnum h' e it (i : Int) old) ∧ h'.IsListIter it l i ∧ Fr h₀ env.locals h' m ∧ h'.Ns C m' ∧ News h₀ env.locals h' ((D, LCg.lst ys) :: news) ∧ J i ys) ?_ (items.size + 1)
      ⟨h₁, _, 0, [], _, rfl, Nat.zero_le _, rfl, rfl, ⟨old, keep1 _ _ he⟩, hit.at fun o q => keep1 _ o q, F.keeps keep1, hns₁, fun p hp => ?_, hJ⟩
    · rintro k s' ⟨h', tk, i, ys, m', rfl, hi, rfl, hyl, ⟨old', he'⟩, hit', F', hn', N', hJ'⟩
      have hlst : h'.IsList l items := ⟨_, (N' _ (.tail _ hl)).1, rfl, _, rfl⟩
      by_cases hlt : i < items.size
      · refine W.item i _ _ _ hlt ⟨⟨old', he'⟩, hit', hlst⟩ fun T vals h₂ tk₂ hPv hTs hT hM hk₂ => ?_
        dsimp only
        refine W.go _ _ _ i T _ _ _ hM fun h₃ hst₃ hk₃ => ?_
        obtain ⟨t, v, hv, rfl⟩ := hPv
        obtain ⟨⟨old3, he3⟩, hit3, hl3⟩ := hst₃
        have k23 : ∀ b o, b ≠ e → b ≠ it → h'.get? b = some o → h₃.get? b = some o := fun b o n1 n2 q => by
          have nm : b ∉ [e, it] := by
            intro hm
            rcases List.mem_cons.mp hm with z | hm
            · exact n1 z
            · exact n2 (List.mem_singleton.mp hm)
          exact hk₃ b o nm (hk₂ b o nm q)
        have hT3 : h₃.IsTuple T #[Value.int i t, v] := hT.at fun o q => hk₃ _ o (W.apart _ _ _ hM) q
        refine assign_Tuple_tuple hh hT3 rfl rfl fun h₅ h5 => ?_
        have k5 : ∀ b o, h₃.get? b = some o → h₅.get? b = some o := fun b o q => h5 b o (Nat.ne_of_lt (Heap.lt_size q)) q
        have hn5 : h₅.Ns C m' := (hn'.at' fun o q => k23 _ o (Nat.ne_of_gt (Nat.lt_trans hltE hDltC)) (Nat.ne_of_gt (Nat.lt_trans hltI hDltC)) q).at' fun o q => k5 _ o q
        refine assignInOrder_cons (wpAny_assign_Name (wpAny_storeName_local (lookup_relabel_local hx) hn5 (fun h₆ hn₆ hs₆ => ?_) (by simp [compEnvC, relabel, hkind])))
        refine assignInOrder_cons (wpAny_assign_Name (wpAny_storeName_local (lookup_relabel_local hy) hn₆ (fun h₇ hn₇ hs₇ => ?_) (by simp [compEnvC, relabel, hkind])))
        refine assignInOrder_nil ?_
        have k57 : ∀ b o, b ≠ C → h₅.get? b = some o → h₇.get? b = some o := fun b o n q => hs₇.extBut b o n (hs₆.extBut b o n q)
        have k7 : ∀ b o, b ≠ e → b ≠ it → b ≠ C → h'.get? b = some o → h₇.get? b = some o := fun b o n1 n2 n3 q => k57 b o n3 (k5 b o (k23 b o n1 n2 q))
        obtain ⟨oC, heC, hoC⟩ := ns_obj hn₇
        obtain ⟨oIt, hIt⟩ : ∃ o, h₃.get? it = some o := by obtain ⟨o, q, _⟩ := hit3; exact ⟨o, q⟩
        obtain ⟨oEn, hEn⟩ : ∃ o, h₃.get? e = some o := ⟨_, he3⟩
        have e7 := k57 _ _ (Nat.ne_of_lt (Nat.lt_trans hltE hDltC)) (k5 _ _ hEn)
        have i7 := k57 _ _ (Nat.ne_of_lt (Nat.lt_trans hltI hDltC)) (k5 _ _ hIt)
        have hCL : C ≠ env.locals := Nat.ne_of_gt (Nat.lt_trans hLD hDltC)
        have F₇ : Fr h₀ env.locals h₇ m := by
          refine ((Fr.keeps (⟨F'.ns.at' fun o q => k23 _ o hLe hLi q, fun b o q => ?_, F'.above⟩ : Fr h₀ env.locals h₃ m) k5).change hs₆ hCL hC0).change hs₇ hCL hC0
          exact k23 b o (fun z => by rw [z, h0e] at q; cases q) (fun z => by rw [z, h0i] at q; cases q) (F'.keep b o q)
        have N₇ : News h₀ env.locals h₇ ((e, oEn) :: (it, oIt) :: (C, oC) :: (D, LCg.lst ys) :: news) := by
          intro p hp
          rcases List.mem_cons.mp hp with rfl | hp
          · exact ⟨e7, Ne.symm hLe, h0e⟩
          rcases List.mem_cons.mp hp with rfl | hp
          · exact ⟨i7, Ne.symm hLi, h0i⟩
          rcases List.mem_cons.mp hp with rfl | hp
          · exact ⟨heC, hCL, hC0⟩
          · refine ⟨k7 _ _ ?_ ?_ ?_ (N' p hp).1, (N' p hp).2⟩
            all_goals rcases List.mem_cons.mp hp with rfl | hp
            · exact Nat.ne_of_gt hltE
            · exact (off p hp).1
            · exact Nat.ne_of_gt hltI
            · exact (off p hp).2
            · exact hDC
            · exact Nat.ne_of_lt (Nat.lt_trans (hnD p hp) hDltC)
        refine wpAny_mono (turn i ys oEn oIt C oC D _ h₇ _ t v _ hv hJ' hoC (by simp [hxy]) (by simp) F₇ N₇) (fun z s₄ h₄ => ?_) fun _ _ q => q
        obtain ⟨h₈, tk₈, rfl, F₈, N₈, hJ₈⟩ := h₄
        have z1 := (N₈ _ (.head _)).1
        have z2 := (N₈ _ (.tail _ (.head _))).1
        have z3 := (N₈ _ (.tail _ (.tail _ (.head _)))).1
        have z4 := (N₈ _ (.tail _ (.tail _ (.tail _ (.head _))))).1
        refine append_at (hsz := by show ys.toArray.size ≤ sizeLine; rw [List.size_toArray, hyl]; exact Nat.le_trans hi hsz) z4 fun h₉ hs₉ hD₉ => ?_
        refine ⟨items.size + 1 - (i + 1), by omega, h₉, tk₈, i + 1, ys ++ [z], _, rfl, hlt, rfl, by rw [List.length_append, List.length_singleton, hyl], ⟨_, hs₉.extBut _ _ (Nat.ne_of_lt hltE) (z1.trans (hEn.symm.trans he3))⟩, ?_, F₈.change hs₉ (Nat.ne_of_gt hLD) hD0,
          (hoC.ns z3).sameBut hs₉ (Ne.symm hDC), fun p hp => ?_, hJ₈⟩
        · obtain ⟨o, q, r⟩ := hit3
          have : oIt = o := Option.some.inj (hIt.symm.trans q)
          subst this
          exact ⟨_, hs₉.extBut _ _ (Nat.ne_of_lt hltI) z2, r⟩
        · rcases List.mem_cons.mp hp with rfl | hp
          · exact ⟨hD₉.trans (congrArg some (lst_snoc ys z)), Nat.ne_of_gt hLD, hD0⟩
          · have q := N₈ p (.tail _ (.tail _ (.tail _ (.tail _ hp))))
            exact ⟨hs₉.extBut _ _ (Nat.ne_of_lt (hnD p hp)) q.1, q.2⟩
      · obtain rfl : i = items.size := Nat.le_antisymm hi (Nat.not_lt.mp hlt)
        refine W.done _ _ _ ⟨⟨old', he'⟩, hit', hlst⟩ fun h₂ tk₂ hk₂ => ?_
        have k2 : ∀ b o, b ≠ e → b ≠ it → h'.get? b = some o → h₂.get? b = some o := fun b o n1 n2 q => hk₂ b o (by
          intro hm
          rcases List.mem_cons.mp hm with z | hm
          · exact n1 z
          · exact n2 (List.mem_singleton.mp hm)) q
        have hCL : C ≠ env.locals := Nat.ne_of_gt (Nat.lt_trans hLD hDltC)
        have F₂ : Fr h₀ env.locals h₂ m := by
          refine ⟨F'.ns.at' fun o q => k2 _ o hLe hLi q, fun b o q => ?_, F'.above⟩
          exact k2 b o (fun z => by rw [z, h0e] at q; cases q) (fun z => by rw [z, h0i] at q; cases q) (F'.keep b o q)
        have hn2 : h₂.Ns C m' := hn'.at' fun o q => k2 _ o (Nat.ne_of_gt (Nat.lt_trans hltE hDltC)) (Nat.ne_of_gt (Nat.lt_trans hltI hDltC)) q
        show wpAny _ A (assign (.Name z pz) env (.ref D)) _ _ _
        refine wpAny_assign_Name (wpAny_storeName_local hz F₂.ns (fun h₄ hn₄ hs₄ => ?_) hp)
        have hL₀ : h₀.get? env.locals = none := Heap.get?_none_of_le F'.above
        have F₄ : Fr h₀ env.locals h₄ (fun k => if k = z then some (.ref D) else m k) := ⟨hn₄, fun b o q => hs₄.extBut b o (fun r => by rw [r, hL₀] at q; cases q) (F₂.keep b o q), F'.above⟩
        refine ⟨m', hn2.sameBut hs₄ hCL, fun h'' hs'' => fin ys D h'' _ hJ' (F₄.change hs'' hCL hC0) (fun p hp => ?_) fun p hp => Nat.ne_of_lt (hnD p hp)⟩
        have q := N' p hp
        rcases List.mem_cons.mp hp with rfl | hp
        · exact ⟨hs''.extBut _ _ hDC (hs₄.extBut _ _ q.2.1 (k2 _ _ (Nat.ne_of_gt hltE) (Nat.ne_of_gt hltI) q.1)), q.2⟩
        · exact ⟨hs''.extBut _ _ (Nat.ne_of_lt (Nat.lt_trans (hnD p hp) hDltC)) (hs₄.extBut _ _ q.2.1 (k2 _ _ (off p hp).1 (off p hp).2 q.1)), q.2⟩
    · rcases List.mem_cons.mp hp with rfl | hp
      · exact ⟨hDo, Nat.ne_of_gt hLD, hD0⟩
      · exact ⟨keep1 _ _ (N p hp).1, (N p hp).2⟩
  exact codeAny_compStart_list (loop _ rfl) (wpAny_pyIter_enum (keep1 _ _ he) (loop _ rfl))
noncomputable def TurnE (h₀ : Heap) (L : Addr) (m : Str → Option Value) (s : Shared) (all : List (Addr × Obj)) (K : Value → Prop) (z : Value) (s' : Shared) : Prop :=
  ∃ h' tk', s' = { s with heap := h', toks := tk' } ∧ Fr h₀ L h' m ∧ News h₀ L h' all ∧ K z
theorem enum_src {elt : Expr} {x y z : Str} {scope : Scope} {cl : List (Str × Addr)} {Q : Flow → Shared → Prop} {l : Addr} {w1 : List Value} {ns : List Int} {k1 : Nat} {news : List (Addr × Obj)} (J : Nat → List Value → Prop)
    (F : Fr h₀ L s.heap m) (N : News h₀ L s.heap ((l, listOf (List.toArray w1) k1) :: news)) (hI : IntsAre w1 ns) (hlen : ns.length ≤ 6) (hh : A.handled = none) (hJ : J 0 [])
    (turn : ∀ i ys e it oE oI C oC D m₂ h tk t g tg (E' : Value → Shared → Prop), ns[i]? = some g → J i ys → LCg.NsObj oC m₂ → m₂ x = some (.int (i : Int) t) → m₂ y = some (.int g tg) → Fr h₀ L h m → News h₀ L h ((e, oE) :: (it, oI) :: (C, oC) :: (D, LCg.lst ys) :: (l, listOf (List.toArray w1) k1) :: news) →
      wpAny (model prog w) A (eval elt (compEnvC scope cl C env)) (TurnE h₀ L m s ((e, oE) :: (it, oI) :: (C, oC) :: (D, LCg.lst ys) :: (l, listOf (List.toArray w1) k1) :: news) (fun z => J (i + 1) (ys ++ [z]))) E' { s with heap := h, toks := tk })
    (fin : ∀ ys D h tk, J ns.length ys → Fr h₀ L h (fun k => if k = z then some (.ref D) else m k) → News h₀ L h ((D, LCg.lst ys) :: (l, listOf (List.toArray w1) k1) :: news) → (∀ p ∈ (l, listOf (List.toArray w1) k1) :: news, p.1 ≠ D) → Q .next { s with heap := h, toks := tk }) :
    wpAny (model prog w) A (call (.type "enumerate") [.ref l]) (EnumPost prog w A h₀ L m env elt x y scope cl z Q) E s := by
  have hsz : (List.toArray w1).size = ns.length := by rw [List.size_toArray, hI.length]
  have fresh0 : ∀ a, s.heap.objs.size ≤ a → h₀.get? a = none := fun a ha => by
    cases q : h₀.get? a with
    | none => rfl
    | some o' => exact absurd (Heap.lt_size (F.keep a o' q)) (Nat.not_lt.mpr ha)
  have hnS : ∀ p ∈ (l, listOf (List.toArray w1) k1) :: news, p.1 < s.heap.objs.size := fun p hp => Heap.lt_size (N p hp).1
  refine enum_rows F (News.isList N (.head _)) ?_
  intro h9 hE hIt hLst F9 keep n1 n2 n3 _ _
  refine ⟨_, _, _, _, _, _, J, rfl, n1, n2, n3, hh, by rw [hsz, sizeLine_eq]; omega, ⟨_, hE⟩, hIt, F9, N.grown keep, .head _, Nat.ne_of_lt (Nat.lt_succ_of_lt F.ns.lt), Nat.ne_of_lt F.ns.lt, fresh0 _ (Nat.le_succ _), fresh0 _ (Nat.le_refl _), fun p hp => ⟨Nat.ne_of_lt (Nat.lt_succ_of_lt (hnS p hp)), Nat.ne_of_lt (hnS p hp)⟩, hJ, ?_, ?_⟩
  · intro i ys oE oI C oC D m₂ h tk t v E' hv hJ' hC hx hy F' N'
    obtain ⟨g, tg, rfl, hg⟩ := IntsAre.at hI i v (by simpa using hv)
    exact turn i ys _ _ oE oI C oC D m₂ h tk t g tg E' hg hJ' hC hx hy F' N'
  · intro ys D h tk hJ' F' N' ho
    rw [hsz] at hJ'
    exact fin ys D h tk hJ' F' N' ho
theorem ints_within {vs : List Value} {ns : List Int} (hI : IntsAre vs ns) : ∀ l : List Value, (∀ v ∈ l, v ∈ vs) → ∃ ms, IntsAre l ms ∧ ∀ x ∈ ms, x ∈ ns
  | [], _ => ⟨[], .nil, fun x hx => nomatch hx⟩
  | v :: r, h => by
    obtain ⟨ms, h1, h2⟩ := ints_within hI r fun u hu => h u (.tail _ hu)
    obtain ⟨i, hi⟩ := List.mem_iff_getElem?.mp (h v (.head _))
    obtain ⟨k, t, rfl, hk⟩ := IntsAre.at hI i v hi
    refine ⟨k :: ms, .cons _ _ h1, fun x hx => ?_⟩
    rcases List.mem_cons.mp hx with rfl | hx
    · exact List.mem_of_getElem? hk
    · exact h2 x hx
theorem sum_within (b : Int) : ∀ ms : List Int, (∀ x ∈ ms, 0 ≤ x ∧ x < b) → 0 ≤ ms.sum ∧ ms.sum ≤ b * ms.length
  | [], _ => by simp
  | x :: r, h => by
    have h1 := sum_within b r fun y hy => h y (.tail _ hy)
    have h2 := h x (.head _)
    have e : b * ((r.length + 1 : Nat) : Int) = b * r.length + b := by
      rw [Int.natCast_add, Int.mul_add]; simp
    rw [List.sum_cons, List.length_cons, e]
    omega
theorem slice_step {l : Addr} {vs : List Value} {ns : List Int} {news : List (Addr × Obj)} {value slice : Expr} {vl vu vk : Value} {lo hi st : Option Int} {ops : List Value} {Q : Value → Shared → Prop}
    (F : Fr h₀ L s.heap m) (N : News h₀ L s.heap news) (hl : s.heap.IsList l vs.toArray) (pl : IsPart vl lo) (pu : IsPart vu hi) (pk : IsPart vk st) (h0 : st ≠ some 0) (hI : IntsAre vs ns) (hlen : ns.length ≤ 60) (hb : ∀ x ∈ ns, 0 ≤ x ∧ x < 100000)
    (h : ∀ D ws ms h', Fr h₀ L h' m → News h₀ L h' ((D, listOf (List.toArray ws) 0) :: news) → IntsAre ws ms → ms.length ≤ 60 → (0 ≤ ms.sum ∧ ms.sum ≤ 6000000) → (∀ p ∈ news, p.1 < D) → Q (.ref D) { s with heap := h' })
    (hs : subscripted slice false (.ref l) (.ref s.heap.objs.size) = operate ops (getItem (.ref l) (.ref s.heap.objs.size)) := by with_unfolding_all rfl)
    (ht : ∀ r, letTemporaryGo value (.ref l) r = pure () := by intro _; with_unfolding_all rfl) :
    wpAny (model prog w) A (subscriptTail value slice (.ref l) (.ref s.heap.objs.size)) Q E { s with heap := s.heap.push { cls := .type "slice", data := .fields #[vl, vu, vk] } } := by
  have hvs : vs.toArray.size = ns.length := by rw [List.size_toArray, hI.length]
  have hsz := slicePick_size_le vs.toArray lo hi st
  obtain ⟨ms, hm1, hm2⟩ := ints_within hI (slicePick vs.toArray lo hi st).toList (by
    intro v hv
    unfold slicePick at hv
    rw [List.toList_toArray] at hv
    obtain ⟨i, _, hi⟩ := List.mem_filterMap.mp hv
    have := Array.mem_of_getElem? hi
    simpa using this)
  have hml : ms.length ≤ 60 := by
    have := hm1.length
    rw [Array.length_toList] at this
    omega
  have hms := sum_within 100000 ms fun x hx => hb x (hm2 x hx)
  refine slice_list3 F N hl pl pu pk h0 (fun h' F' N' => h _ (slicePick vs.toArray lo hi st).toList ms h' F' ?_ hm1 hml ?_ fun p hp => Nat.lt_succ_of_lt (Heap.lt_size (N p hp).1)) hs ht (by rw [hvs, sizeLine_eq]; omega)
  · rw [Array.toArray_toList]
    exact N'
  · have : (ms.length : Int) ≤ 60 := by omega
    omega
end
end Mine
end
section
open PySem PySem.W PyProof.Rows PySem.Calls PySem.Builtin
set_option maxRecDepth 100000
set_option maxHeartbeats 4000000
namespace Mine
theorem asc1 (c : UInt8) (h : c.toNat < 128) (id : String) : _codecs.runDecoder id _codecs.asciiDecoder none true #[c] 0 [] = pure (#[c.toNat], 1) := by
  simp [_codecs.runDecoder, _codecs.asciiDecoder, _codecs.Found.char, h, sizeLine_eq]
theorem asc2 (c d : UInt8) (h : c.toNat < 128) (h' : d.toNat < 128) (id : String) : _codecs.runDecoder id _codecs.asciiDecoder none true #[c, d] 0 [] = pure (#[c.toNat, d.toNat], 2) := by
  simp [_codecs.runDecoder, _codecs.asciiDecoder, _codecs.Found.char, h, h', sizeLine_eq, List.range'_succ]
theorem args_dec2 (a b : Value) : argsOk "bytes.decode" ⟨[a, b], []⟩ := by
  unfold argsOk; rw [signature?_of (id := "bytes.decode") (n := ['e', 'd', 'o', 'c', 'e', 'd']) (o := ['s', 'e', 't', 'y', 'b']) (by kernel_rfl) FB.owner_bytes]; kernel_rfl
theorem asc_road {id : String} {b : Array UInt8} : _codecs.decodeRoad id b (PySem.Str.ofString "ascii") none [] = (_codecs.runDecoder id _codecs.asciiDecoder none true b 0 [] >>= fun r => mkStr ⟨r.1⟩) := by kernel_rfl
theorem asc_entry {c : UInt8} {cs : List UInt8} {t ta : Tok} : «bytes.decode» ⟨[.bytes (c :: cs).toArray t, .str (PySem.Str.ofString "ascii") ta], []⟩ = (mkStr (PySem.Str.ofString "utf-8") >>= fun _ => mkStr (PySem.Str.ofString "ascii") >>= fun e => mkStr (PySem.Str.ofString "bytes.decode") >>= fun d =>
    call (.builtin "_codecs.decode.text") [.bytes (c :: cs).toArray t, e, .none, d] >>= fun v => ret v) := by kernel_rfl
theorem asc_empty {t ta : Tok} : «bytes.decode» ⟨[.bytes #[] t, .str (PySem.Str.ofString "ascii") ta], []⟩ = (rule "bytes.decode.empty" >>= fun _ => retStr Str.empty) := by kernel_rfl
theorem asc_text {b : Array UInt8} {x : PySem.Str} {n : Nat} {t t1 t2 : Tok} {d : PySem.Str} (hd : ∀ id, _codecs.runDecoder id _codecs.asciiDecoder none true b 0 [] = pure (x.cps, n)) :
    Meets («_codecs.decode.text» ⟨[.bytes b t, .str (PySem.Str.ofString "ascii") t1, .none, .str d t2], []⟩) (fun _ R s => x.length ≤ sizeLine ∧ R (.ok (.ret (.str x s.toks))) { s with toks := s.toks + 1 }) := by
  refine .of_wp fun prog w A R s hS => ?_
  obtain ⟨hsz, h⟩ := hS
  show wpAny _ _ (Bytes.bytesLike _ (.bytes b t) >>= fun r => _) _ _ s
  refine wpAny_bind (wpAny_of_eq KBd.like_eq ?_)
  refine wpAny_bind (wpAny_of_eq KBd.held_eq ?_)
  show wpAny _ _ (_codecs.decodeRoad _ b (PySem.Str.ofString "ascii") none [] >>= fun v => _) _ _ s
  rw [asc_road, hd]
  refine wpAny_bind (wpAny_bind (wpAny_pure ?_))
  exact wpAny_mkStr (wpAny_pure ⟨_, rfl, h⟩) hsz
/-- the letters of a number below 64, as a text -/
noncomputable def apT (b : Nat) : PySem.Str := ⟨((apL b).map Int.toNat).toArray⟩
theorem ap_run {v : Array UInt8} {b : Nat} (hb : b < 64) (hv : KBw.bInts v = apL b) : v = #[] ∧ apT b = PySem.Str.empty ∨ ∃ c cs, v = (c :: cs).toArray ∧ ∃ n, ∀ id, _codecs.runDecoder id _codecs.asciiDecoder none true (c :: cs).toArray 0 [] = pure ((apT b).cps, n) := by
  obtain ⟨l, rfl⟩ : ∃ l : List UInt8, v = l.toArray := ⟨v.toList, by simp⟩
  have hv' : l.map (fun c => (c.toNat : Int)) = apL b := by simpa [KBw.bInts] using hv
  have hb2 : ∀ x ∈ apL b, 0 ≤ x ∧ x < 128 := by
    unfold apL
    split
    · intro x hx; cases hx
    · split
      · intro x hx
        simp at hx; omega
      · intro x hx
        simp at hx; omega
  have hT : apT b = ⟨(l.map (·.toNat)).toArray⟩ := by
    unfold apT
    rw [← hv']
    simp [List.map_map, Function.comp_def]
  have hlen : (apL b).length ≤ 2 := by
    unfold apL
    split
    · simp
    · split <;> simp
  have hl : l.length ≤ 2 := by rw [← hv'] at hlen; simpa using hlen
  have hc : ∀ c ∈ l, c.toNat < 128 := fun c hc => by
    have := hb2 (c.toNat : Int) (by rw [← hv']; exact List.mem_map_of_mem hc)
    omega
  rcases l with _ | ⟨c, _ | ⟨d, _ | ⟨e, r⟩⟩⟩
  · exact .inl ⟨rfl, by rw [hT]; rfl⟩
  · refine .inr ⟨c, [], rfl, 1, fun id => ?_⟩
    rw [hT]
    exact asc1 c (hc c (by simp)) id
  · refine .inr ⟨c, [d], rfl, 2, fun id => ?_⟩
    rw [hT]
    exact asc2 c d (hc c (by simp)) (hc d (by simp)) id
  · simp at hl
theorem apT_len {b : Nat} : (apT b).length ≤ 2 := by
  show ((apL b).map Int.toNat).toArray.size ≤ 2
  rw [List.size_toArray, List.length_map]
  unfold apL
  split
  · simp
  · split <;> simp
theorem decode_ap {prog : Program} {w : World} {A : Around} {E : Value → Shared → Prop} {s : Shared} {v : Array UInt8} {b : Nat} {t ta : Tok} {Q : Value → Shared → Prop} (hb : b < 64) (hv : KBw.bInts v = apL b)
    (h : ∀ t' k, Q (.str (apT b) t') { s with toks := k }) : wpAny (model prog w) A (call (.builtin "bytes.decode") [.bytes v t, .str (PySem.Str.ofString "ascii") ta]) Q E s := by
  have hsz : (apT b).length ≤ sizeLine := Nat.le_trans apT_len (by rw [sizeLine_eq]; decide)
  refine call_meets FB.slot_bytes_decode (typeIs_bytes _ _ _) FB.entry_bytes_decode (args_dec2 _ _) (S := fun _ R s => ∀ t' k, R (.ok (.ret (.str (apT b) t'))) { s with toks := k }) (.of_wp fun prog w A R s hS => ?_) h
  rcases ap_run hb hv with ⟨rfl, he⟩ | ⟨c, cs, rfl, n, hd⟩
  · rw [asc_empty]
    refine wpAny_bind (wpAny_rule ?_)
    rw [he] at hS
    exact wpAny_bind (wpAny_mkStr (wpAny_pure ⟨_, rfl, hS _ _⟩) (by decide))
  · rw [asc_entry]
    refine wpAny_bind (wpAny_mkStr ?_ (by decide))
    refine wpAny_bind (wpAny_mkStr ?_ (by decide))
    refine wpAny_bind (wpAny_mkStr ?_ (by decide))
    exact wpAny_bind (call_function_meets KBd.kind_text KBd.plain_text KBd.entry_text (KBd.args_text _ _ _ _) (asc_text hd) ⟨hsz, wpAny_pure ⟨_, rfl, hS _ _⟩⟩)
end Mine
end
section
open PySem PySem.W PyProof.Rows
set_option maxRecDepth 100000
set_option maxHeartbeats 8000000
namespace Mine
theorem S_st0 (w : World) (mean : ExcName → Option Value) (mg mb : Str → Option Value) (dp un : Nat) (gd : Option (List Code)) (L : Addr) (outer : List Env) (A₀ : Around) (base h₀ : Heap) (m₀ : Str → Option Value) (s : Shared) (Q : Flow → Shared → Prop) (E : Value → Shared → Prop) (fa : Addr) (cd : Value) (rest : List (Addr × Obj)) (sc : Addr) (vs : List Value) (ns : List Int) (o1 : Obj) (v1 : Option Value)
  (B : Below A₀ base outer h₀) (F : Fr h₀ L s.heap (fun y => if y = Str.ofString "script" then some (.ref sc) else m₀ y)) (KX : (Mine.hd.heap_39 w.params).In h₀) (N : News h₀ L s.heap ((L+1, o1) :: rest))
  (T : Top Mine.hd.view_39 [Str.ofString "_twin_re_1", Str.ofString "_twin_re_2", Str.ofString "_sre"] mean mg mb h₀) (hdp : dp + 16 < recursionLimit) (hun : un + 128 < cLine) (hl : h₀.IsList sc vs.toArray) (hi : IntsAre vs ns) (hlen : ns.length ≤ 63) (d1 : o1.data = .cell v1) (hoff : ∀ p ∈ rest, p.1 ≠ L + 1)
  (hQ : ∀ h tk t o, Fr h₀ L h (fun y => if y = Str.ofString "script" then some (.ref sc) else m₀ y) → News h₀ L h ((L+1, o) :: rest) → o.data = .cell (some (.int (5 + ((ns.length : Int)).fmod 2) t)) → Q .next { s with heap := h, toks := tk })
  : wpAny (model PySem.Challenge.rw_wn0018_01.row.prog w) (ktrTop dp un gd (Str.ofString "law") lawScope L fa cd (lawCells L) outer) (exec (st 0) (envX (Str.ofString "law") lawScope L fa cd (lawCells L))) Q E s := by
  w_on
  revert KX; k_fill; intro KX
  conv in st 0 => whnf
  repeat' ((fail_if_success (with_reducible show wpAny _ _ (storeName _ _ _) _ _ _)); first | (k_unfold; (try dsimp only)) | (k_end; wrow_close) | walk1 | (dsimp only; walk1) | (leave1; walk_say "STEP leave1"; try dsimp only) | fail "no step")
  (with_reducible rename Fr _ _ _ _ => kF9); (with_reducible rename News _ _ _ _ => kN9)
  refine stCell (own := []) kF9 kN9 d1 (fun p hp => nomatch hp) hoff ?_
  intro h7 o7 F7 N7 d7
  exact hQ _ _ _ _ F7 N7 d7
end Mine
end
section
open PySem PySem.W PyProof.Rows
set_option maxRecDepth 100000
set_option maxHeartbeats 8000000
namespace Mine
theorem S_st1 (w : World) (mean : ExcName → Option Value) (mg mb : Str → Option Value) (dp un : Nat) (gd : Option (List Code)) (L : Addr) (outer : List Env) (A₀ : Around) (base h₀ : Heap) (m₀ : Str → Option Value) (s : Shared) (Q : Flow → Shared → Prop) (E : Value → Shared → Prop) (fa : Addr) (cd : Value) (rest : List (Addr × Obj)) (sc : Addr) (vs : List Value) (ns : List Int) (o2 : Obj) (v2 : Option Value)
  (B : Below A₀ base outer h₀) (F : Fr h₀ L s.heap (fun y => if y = Str.ofString "script" then some (.ref sc) else m₀ y)) (KX : (Mine.hd.heap_39 w.params).In h₀) (N : News h₀ L s.heap ((L+2, o2) :: rest))
  (T : Top Mine.hd.view_39 [Str.ofString "_twin_re_1", Str.ofString "_twin_re_2", Str.ofString "_sre"] mean mg mb h₀) (hdp : dp + 16 < recursionLimit) (hun : un + 128 < cLine) (hl : h₀.IsList sc vs.toArray) (hi : IntsAre vs ns) (hlen : ns.length ≤ 63) (d2 : o2.data = .cell v2) (hoff : ∀ p ∈ rest, p.1 ≠ L + 2)
  (hQ : ∀ h tk D ws k D1 w1 o sm, Fr h₀ L h (fun y => if y = Str.ofString "script" then some (.ref sc) else m₀ y) → News h₀ L h ((D, listOf (List.toArray ws) k) :: (D1, listOf (List.toArray w1) 0) :: (L+2, o) :: rest) → o.data = .cell (some (.ref D)) → IntsAre ws sm → sm.length ≤ 60 → (∀ x ∈ sm, 0 ≤ x ∧ x < 100000) → (∀ p ∈ (D1, listOf (List.toArray w1) 0) :: (L+2, o2) :: rest, p.1 ≠ D) → Q .next { s with heap := h, toks := tk })
  : wpAny (model PySem.Challenge.rw_wn0018_01.row.prog w) (ktrTop dp un gd (Str.ofString "law") lawScope L fa cd (lawCells L) outer) (exec (st 1) (envX (Str.ofString "law") lawScope L fa cd (lawCells L))) Q E s := by
  w_on
  revert KX; k_fill; intro KX
  conv in st 1 => whnf
  repeat' ((fail_if_success (with_reducible show wpAny _ _ (eval (Expr.ListComp _ _ _ _) _) _ _ _)); first | (k_unfold; (try dsimp only)) | (k_end; wrow_close) | walk1 | (dsimp only; walk1) | (leave1; walk_say "STEP leave1"; try dsimp only) | fail "no step")
  (try dsimp only)
  k_dflt (refine LCg.ListComp_U (F₀ := by k_asm) (by with_unfolding_all rfl) (by decide) (by rfl) (by decide) (by rfl) ?_)
  repeat' ((fail_if_success (with_reducible show LCg.CompSrc _ _ _ _ _ _ _ _ _ _ _ _ _ _)); first | (k_unfold; (try dsimp only)) | (k_end; wrow_close) | walk1 | (dsimp only; walk1) | (leave1; walk_say "STEP leave1"; try dsimp only) | fail "no step")
  (with_reducible rename IntsAre _ (List.take _ _) => hI7)
  (with_reducible rename News _ _ _ _ => hN7)
  rename _ < _ ∧ AllLt _ rest => l7
  refine LCg.CompSrc.ledger rfl (by k_asm) (by k_asm) (by k_mem) (by kmk_size) ?_
  intro g2
  refine kcf_list (fun x => x.fmod 100000) hI7 (fun k' t' I' oI' C' oC' D' m' ys' h' tk' E' hk' hC' hx' F' N' off' ne' mk' => ?_) ?_
  · have off0 := off'
    simp only [LCg.Off3, and_true] at off'
    k_steps
    all_goals exact ⟨rfl, _, rfl⟩
  · unfold KPfDone
    intro ys hys
    unfold LCg.FinE
    intro D' h' tk' F' N' o1'
    have o0' := o1'
    (try simp only [LCg.Off1, and_true] at o1')
    dsimp only
    repeat' ((fail_if_success (with_reducible show wpAny _ _ (storeName _ _ _) _ _ _)); first | (k_unfold; (try dsimp only)) | (k_end; wrow_close) | walk1 | (dsimp only; walk1) | (leave1; walk_say "STEP leave1"; try dsimp only) | fail "no step")
    (with_reducible rename Fr _ _ _ _ => kF9); (with_reducible rename News _ _ _ _ => kN9)
    refine stCell (own := [(_, _), (_, _)]) kF9 (fun p hp => kN9 p hp) d2 ?_ hoff ?_
    · intro p hp
      simp only [List.mem_cons, List.not_mem_nil, or_false] at hp
      rcases hp with rfl | rfl
      · exact (off1_all o0' (L+2, o2) (by simp)).symm
      · exact Nat.ne_of_gt l7.1
    intro h7 o7' F7 N7 d7'
    exact hQ _ _ _ _ _ _ _ _ _ F7 N7 d7' hys (by rw [List.length_map, List.length_take]; omega) (fun x hx => by
      obtain ⟨z, _, rfl⟩ := List.mem_map.mp hx
      exact ⟨Int.fmod_nonneg_of_pos _ (by decide), Int.fmod_lt_of_pos _ (by decide)⟩) (off1_all o0')
end Mine
end
section
open PySem PySem.W PyProof.Rows
set_option maxRecDepth 100000
set_option maxHeartbeats 8000000
namespace Mine
theorem S_st2 (w : World) (mean : ExcName → Option Value) (mg mb : Str → Option Value) (dp un : Nat) (gd : Option (List Code)) (L : Addr) (outer : List Env) (A₀ : Around) (base h₀ : Heap) (m₀ : Str → Option Value) (s : Shared) (Q : Flow → Shared → Prop) (E : Value → Shared → Prop) (fa : Addr) (cd : Value) (rest : List (Addr × Obj)) (sc : Addr) (sm : List Int) (sv : List Value) (sn : Nat) (D0 : Addr) (o1 o2 : Obj) (n : Int) (tn : Tok)
  (B : Below A₀ base outer h₀) (F : Fr h₀ L s.heap (fun y => if y = Str.ofString "script" then some (.ref sc) else m₀ y)) (KX : (Mine.hd.heap_39 w.params).In h₀) (N : News h₀ L s.heap ((D0, listOf sv.toArray sn) :: (L+1, o1) :: (L+2, o2) :: rest))
  (T : Top Mine.hd.view_39 [Str.ofString "_twin_re_1", Str.ofString "_twin_re_2", Str.ofString "_sre"] mean mg mb h₀) (hdp : dp + 16 < recursionLimit) (hun : un + 128 < cLine) (hsm : IntsAre sv sm) (hsl : sm.length ≤ 60) (hsb : ∀ x ∈ sm, 0 ≤ x ∧ x < 100000) (hn : n = 5 ∨ n = 6) (d1 : o1.data = .cell (some (.int n tn))) (d2 : o2.data = .cell (some (.ref D0)))
  (hQ : ∀ h tk D ws k D1 w1 D2 w2 k2 dr, Fr h₀ L h (fun y => if y = Str.ofString "drawn" then some (.ref D) else if y = Str.ofString "script" then some (.ref sc) else m₀ y) → News h₀ L h ((D, listOf (List.toArray ws) k) :: (D1, listOf (List.toArray w1) 0) :: (D2, listOf (List.toArray w2) k2) :: (D0, listOf sv.toArray sn) :: (L+1, o1) :: (L+2, o2) :: rest) → IntsAre ws dr → (dr.length : Int) = n → (∀ x ∈ dr, 0 ≤ x ∧ x < 3 * n) → (∀ p ∈ (D1, listOf (List.toArray w1) 0) :: (D2, listOf (List.toArray w2) k2) :: (D0, listOf sv.toArray sn) :: (L+1, o1) :: (L+2, o2) :: rest, p.1 ≠ D) → Q .next { s with heap := h, toks := tk })
  : wpAny (model PySem.Challenge.rw_wn0018_01.row.prog w) (ktrTop dp un gd (Str.ofString "law") lawScope L fa cd (lawCells L) outer) (exec (st 2) (envX (Str.ofString "law") lawScope L fa cd (lawCells L))) Q E s := by
  w_on
  revert KX; k_fill; intro KX
  conv in st 2 => whnf
  rcases hn with rfl | rfl
  · refine Assign_enum (h₀ := h₀) (m := fun y => if y = Str.ofString "script" then some (.ref sc) else m₀ y) rfl (by rfl) (by rfl) (by rfl) (by with_unfolding_all rfl) (by decide) (by rfl) (by decide) (by rfl) (by rfl) (by decide) ?_
    repeat' ((fail_if_success (with_reducible show wpAny _ _ (call (Value.type "enumerate") _) _ _ _)); first | (k_unfold; (try dsimp only)) | (k_end; wrow_close) | walk1 | (dsimp only; walk1) | (leave1; walk_say "STEP leave1"; try dsimp only) | fail "no step")
    (with_reducible rename Fr _ _ _ _ => kF9); (with_reducible rename News _ _ _ _ => kN9)
    rename _ < _ ∧ _ ∧ _ ∧ _ ∧ AllLt _ rest => l1
    obtain ⟨D1, D2, w1, w2, k2, hA, hD1, kN8, hw1, l2⟩ : ∃ (D1 D2 : Addr) (w1 w2 : List Value) (k2 : Nat), _ = D1 ∧ _ = Value.ref D1 ∧ News h₀ L _ ((D1, listOf (List.toArray w1) 0) :: (D2, listOf (List.toArray w2) k2) :: (D0, listOf sv.toArray sn) :: (L+1, o1) :: (L+2, o2) :: rest) ∧ IntsAre w1 [27, 3, 22, 21, 32] ∧ (∀ p ∈ (D2, listOf (List.toArray w2) k2) :: (D0, listOf sv.toArray sn) :: (L+1, o1) :: (L+2, o2) :: rest, p.1 < D1) := ⟨_, _, [_, _, _, _, _], [_, _, _, _, _, _], _, rfl, rfl, kN9, .cons _ _ (.cons _ _ (.cons _ _ (.cons _ _ (.cons _ _ .nil)))), ktn_ltOf (l := (_, _) :: (D0, listOf sv.toArray sn) :: (L+1, o1) :: (L+2, o2) :: rest) l1⟩
    clear kN9 l1
    subst hA
    refine enum_src (h₀ := h₀) (ns := [27, 3, 22, 21, 32]) (fun i ys => ∃ dr : List Int, IntsAre ys dr ∧ dr.length = i ∧ ∀ x ∈ dr, 0 ≤ x ∧ x < 3 * 5) kF9 kN8 hw1 (by decide) rfl ⟨[], .nil, rfl, fun x hx => nomatch hx⟩ ?_ ?_
    · intro i ys e it oE oI C oC D m₂ h tk t g tg E' hg ⟨dr, hdr, hdl, hdb⟩ hC hx hy F' N'
      clear kF9 kN8
      dsimp only at F' N' ⊢
      have hgb : 0 ≤ g ∧ g ≤ 32 := by
        have hm := List.mem_of_getElem? hg
        have : ∀ z ∈ ([27, 3, 22, 21, 32] : List Int), 0 ≤ z ∧ z ≤ 32 := by decide
        exact this g hm
      repeat' ((fail_if_success (with_reducible show wpAny _ _ (subscriptTail _ (PySem.Expr.Slice _ _ _ _) (Value.ref _) (Value.ref _)) _ _ _)); first | (k_unfold; (try dsimp only)) | (k_end; wrow_close) | walk1 | (dsimp only; walk1) | (leave1; walk_say "STEP leave1"; try dsimp only) | fail "no step")
      refine' slice_step (s := ⟨_, _, _, _, _⟩) ?qF ?qN ?ql ?qp ?qu ?qk ?q0 hsm hsl hsb ?_ ?qs ?qt
      case qF => k_asm
      case qN => k_asm
      case ql => exact News.isList (by k_asm) (by k_mem)
      case qp => exact IsPart.int _ _
      case qu => exact IsPart.none
      case qk => exact IsPart.int _ _
      case q0 => decide
      case qs => with_unfolding_all rfl
      case qt => intro _; with_unfolding_all rfl
      intro D9 w9 ms h7 F7 N7 hm7 hl7 hs7 lt7
      dsimp only
      clear F' N'
      k_steps
      (with_reducible rename Fr _ _ _ _ => kF9); (with_reducible rename News _ _ _ _ => kN9)
      refine ⟨_, _, rfl, kF9, fun p hp => kN9 p (.tail _ hp), dr ++ [_], hdr.append (.cons _ _ .nil), by rw [List.length_append, hdl]; rfl, fun x hx => ?_⟩
      rcases List.mem_append.mp hx with hx | hx
      · exact hdb x hx
      · rw [List.mem_singleton.mp hx]
        exact ⟨Int.fmod_nonneg_of_pos _ (by decide), Int.fmod_lt_of_pos _ (by decide)⟩
    · intro ys D h tk ⟨dr, hdr, hdl, hdb⟩ F' N' ho
      exact hQ _ _ _ _ _ _ _ _ _ _ _ F' N' hdr (by rw [hdl]; rfl) hdb ho
  · refine Assign_enum (h₀ := h₀) (m := fun y => if y = Str.ofString "script" then some (.ref sc) else m₀ y) rfl (by rfl) (by rfl) (by rfl) (by with_unfolding_all rfl) (by decide) (by rfl) (by decide) (by rfl) (by rfl) (by decide) ?_
    repeat' ((fail_if_success (with_reducible show wpAny _ _ (call (Value.type "enumerate") _) _ _ _)); first | (k_unfold; (try dsimp only)) | (k_end; wrow_close) | walk1 | (dsimp only; walk1) | (leave1; walk_say "STEP leave1"; try dsimp only) | fail "no step")
    (with_reducible rename Fr _ _ _ _ => kF9); (with_reducible rename News _ _ _ _ => kN9)
    rename _ < _ ∧ _ ∧ _ ∧ _ ∧ AllLt _ rest => l1
    obtain ⟨D1, D2, w1, w2, k2, hA, hD1, kN8, hw1, l2⟩ : ∃ (D1 D2 : Addr) (w1 w2 : List Value) (k2 : Nat), _ = D1 ∧ _ = Value.ref D1 ∧ News h₀ L _ ((D1, listOf (List.toArray w1) 0) :: (D2, listOf (List.toArray w2) k2) :: (D0, listOf sv.toArray sn) :: (L+1, o1) :: (L+2, o2) :: rest) ∧ IntsAre w1 [27, 3, 22, 21, 32, 9] ∧ (∀ p ∈ (D2, listOf (List.toArray w2) k2) :: (D0, listOf sv.toArray sn) :: (L+1, o1) :: (L+2, o2) :: rest, p.1 < D1) := ⟨_, _, [_, _, _, _, _, _], [_, _, _, _, _, _], _, rfl, rfl, kN9, .cons _ _ (.cons _ _ (.cons _ _ (.cons _ _ (.cons _ _ (.cons _ _ .nil))))), ktn_ltOf (l := (_, _) :: (D0, listOf sv.toArray sn) :: (L+1, o1) :: (L+2, o2) :: rest) l1⟩
    clear kN9 l1
    subst hA
    refine enum_src (h₀ := h₀) (ns := [27, 3, 22, 21, 32, 9]) (fun i ys => ∃ dr : List Int, IntsAre ys dr ∧ dr.length = i ∧ ∀ x ∈ dr, 0 ≤ x ∧ x < 3 * 6) kF9 kN8 hw1 (by decide) rfl ⟨[], .nil, rfl, fun x hx => nomatch hx⟩ ?_ ?_
    · intro i ys e it oE oI C oC D m₂ h tk t g tg E' hg ⟨dr, hdr, hdl, hdb⟩ hC hx hy F' N'
      clear kF9 kN8
      dsimp only at F' N' ⊢
      have hgb : 0 ≤ g ∧ g ≤ 32 := by
        have hm := List.mem_of_getElem? hg
        have : ∀ z ∈ ([27, 3, 22, 21, 32, 9] : List Int), 0 ≤ z ∧ z ≤ 32 := by decide
        exact this g hm
      repeat' ((fail_if_success (with_reducible show wpAny _ _ (subscriptTail _ (PySem.Expr.Slice _ _ _ _) (Value.ref _) (Value.ref _)) _ _ _)); first | (k_unfold; (try dsimp only)) | (k_end; wrow_close) | walk1 | (dsimp only; walk1) | (leave1; walk_say "STEP leave1"; try dsimp only) | fail "no step")
      refine' slice_step (s := ⟨_, _, _, _, _⟩) ?qF ?qN ?ql ?qp ?qu ?qk ?q0 hsm hsl hsb ?_ ?qs ?qt
      case qF => k_asm
      case qN => k_asm
      case ql => exact News.isList (by k_asm) (by k_mem)
      case qp => exact IsPart.int _ _
      case qu => exact IsPart.none
      case qk => exact IsPart.int _ _
      case q0 => decide
      case qs => with_unfolding_all rfl
      case qt => intro _; with_unfolding_all rfl
      intro D9 w9 ms h7 F7 N7 hm7 hl7 hs7 lt7
      dsimp only
      clear F' N'
      k_steps
      (with_reducible rename Fr _ _ _ _ => kF9); (with_reducible rename News _ _ _ _ => kN9)
      refine ⟨_, _, rfl, kF9, fun p hp => kN9 p (.tail _ hp), dr ++ [_], hdr.append (.cons _ _ .nil), by rw [List.length_append, hdl]; rfl, fun x hx => ?_⟩
      rcases List.mem_append.mp hx with hx | hx
      · exact hdb x hx
      · rw [List.mem_singleton.mp hx]
        exact ⟨Int.fmod_nonneg_of_pos _ (by decide), Int.fmod_lt_of_pos _ (by decide)⟩
    · intro ys D h tk ⟨dr, hdr, hdl, hdb⟩ F' N' ho
      exact hQ _ _ _ _ _ _ _ _ _ _ _ F' N' hdr (by rw [hdl]; rfl) hdb ho
end Mine
end
section
open PySem PySem.W PyProof.Rows
set_option maxRecDepth 100000
set_option maxHeartbeats 8000000
namespace Mine
theorem S_st3 (w : World) (mean : ExcName → Option Value) (mg mb : Str → Option Value) (dp un : Nat) (gd : Option (List Code)) (L : Addr) (outer : List Env) (A₀ : Around) (base h₀ : Heap) (m₀ : Str → Option Value) (s : Shared) (Q : Flow → Shared → Prop) (E : Value → Shared → Prop) (fa : Addr) (cd : Value) (rest : List (Addr × Obj)) (dr : List Int) (dv : List Value) (dn : Nat) (D0 : Addr) (o1 o3 : Obj) (v3 : Option Value) (n : Int) (tn : Tok)
  (B : Below A₀ base outer h₀) (F : Fr h₀ L s.heap (fun y => if y = Str.ofString "drawn" then some (.ref D0) else m₀ y)) (KX : (Mine.hd.heap_39 w.params).In h₀) (N : News h₀ L s.heap ((D0, listOf dv.toArray dn) :: (L+1, o1) :: (L+3, o3) :: rest))
  (T : Top Mine.hd.view_39 [Str.ofString "_twin_re_1", Str.ofString "_twin_re_2", Str.ofString "_sre"] mean mg mb h₀) (hdp : dp + 16 < recursionLimit) (hun : un + 128 < cLine) (hdv : IntsAre dv dr) (hdl : (dr.length : Int) = n) (hdb : ∀ x ∈ dr, 0 ≤ x ∧ x < 3 * n) (hn : n = 5 ∨ n = 6) (d1 : o1.data = .cell (some (.int n tn))) (d3 : o3.data = .cell v3) (hd3 : D0 ≠ L + 3) (hoff : ∀ p ∈ rest, p.1 ≠ L + 3)
  (hQ : ∀ h tk D ws k o, Fr h₀ L h (fun y => if y = Str.ofString "drawn" then some (.ref D0) else m₀ y) → News h₀ L h ((D, listOf (List.toArray ws) k) :: (D0, listOf dv.toArray dn) :: (L+1, o1) :: (L+3, o) :: rest) → IntsAre ws (dr.map fun x => x.fmod n) → o.data = .cell (some (.ref D)) → (∀ p ∈ (D0, listOf dv.toArray dn) :: (L+1, o1) :: (L+3, o3) :: rest, p.1 ≠ D) → Q .next { s with heap := h, toks := tk })
  : wpAny (model PySem.Challenge.rw_wn0018_01.row.prog w) (ktrTop dp un gd (Str.ofString "law") lawScope L fa cd (lawCells L) outer) (exec (st 3) (envX (Str.ofString "law") lawScope L fa cd (lawCells L))) Q E s := by
  w_on
  revert KX; k_fill; intro KX
  conv in st 3 => whnf
  repeat' ((fail_if_success (with_reducible show wpAny _ _ (eval (Expr.ListComp _ _ _ _) _) _ _ _)); first | (k_unfold; (try dsimp only)) | (k_end; wrow_close) | walk1 | (dsimp only; walk1) | (leave1; walk_say "STEP leave1"; try dsimp only) | fail "no step")
  (try dsimp only)
  k_dflt (refine LCg.ListComp_U (F₀ := by k_asm) (by with_unfolding_all rfl) (by decide) (by rfl) (by decide) (by rfl) ?_)
  repeat' ((fail_if_success (with_reducible show LCg.CompSrc _ _ _ _ _ _ _ _ _ _ _ _ _ _)); first | (k_unfold; (try dsimp only)) | (k_end; wrow_close) | walk1 | (dsimp only; walk1) | (leave1; walk_say "STEP leave1"; try dsimp only) | fail "no step")
  refine LCg.CompSrc.ledger rfl (by k_asm) (by k_asm) (by k_mem) (sz_l hdv hdl hn) ?_
  intro g2
  refine kcf_list (fun x => x.fmod n) hdv (fun k' t' I' oI' C' oC' D' m' ys' h' tk' E' hk' hC' hx' F' N' off' ne' mk' => ?_) ?_
  · have off0 := off'
    simp only [LCg.Off3, and_true] at off'
    have hkk := hdb k' hk'
    k_steps
  · unfold KPfDone
    intro ys hys
    unfold LCg.FinE
    intro D' h' tk' F' N' o1'
    have o0' := o1'
    (try simp only [LCg.Off1, and_true] at o1')
    dsimp only
    repeat' ((fail_if_success (with_reducible show wpAny _ _ (storeName _ _ _) _ _ _)); first | (k_unfold; (try dsimp only)) | (k_end; wrow_close) | walk1 | (dsimp only; walk1) | (leave1; walk_say "STEP leave1"; try dsimp only) | fail "no step")
    (with_reducible rename Fr _ _ _ _ => kF9); (with_reducible rename News _ _ _ _ => kN9)
    refine stCell (own := [(_, _), (_, _), (_, _)]) kF9 (fun p hp => kN9 p hp) d3 ?_ hoff ?_
    · intro p hp
      simp only [List.mem_cons, List.not_mem_nil, or_false] at hp
      rcases hp with rfl | rfl | rfl
      · exact (off1_all o0' (L+3, o3) (by simp)).symm
      · exact hd3
      · dsimp only; k_ne
    intro h7 o7' F7 N7 d7'
    exact hQ _ _ _ _ _ _ F7 N7 hys d7' (off1_all o0')
end Mine
end
section
open PySem PySem.W PyProof.Rows
set_option maxRecDepth 100000
set_option maxHeartbeats 8000000
namespace Mine
theorem strs_of {α : Type} {f : α → Str} : ∀ {vs : List Value} {as : List α}, CarriedAll vs (as.map fun a => PyData.str (f a)) → StrsAre vs (as.map f)
  | _, [], .nil => .nil
  | _, _ :: _, .cons (.str _ t) r => .cons _ t (strs_of r)
noncomputable def edgeOf (q : Int) : Str := if q = 0 then Str.ofString "\n" else if q = 1 then Str.ofString "\x0d\n" else Str.ofString "\x0d"
theorem S_st4 (w : World) (mean : ExcName → Option Value) (mg mb : Str → Option Value) (dp un : Nat) (gd : Option (List Code)) (L : Addr) (outer : List Env) (A₀ : Around) (base h₀ : Heap) (m₀ : Str → Option Value) (s : Shared) (Q : Flow → Shared → Prop) (E : Value → Shared → Prop) (fa : Addr) (cd : Value) (rest : List (Addr × Obj)) (dr : List Int) (dv : List Value) (dn : Nat) (D0 : Addr) (o1 o4 : Obj) (v4 : Option Value) (n : Int) (tn : Tok)
  (B : Below A₀ base outer h₀) (F : Fr h₀ L s.heap (fun y => if y = Str.ofString "drawn" then some (.ref D0) else m₀ y)) (KX : (Mine.hd.heap_39 w.params).In h₀) (N : News h₀ L s.heap ((D0, listOf dv.toArray dn) :: (L+1, o1) :: (L+4, o4) :: rest))
  (T : Top Mine.hd.view_39 [Str.ofString "_twin_re_1", Str.ofString "_twin_re_2", Str.ofString "_sre"] mean mg mb h₀) (hdp : dp + 16 < recursionLimit) (hun : un + 128 < cLine) (hdv : IntsAre dv dr) (hdl : (dr.length : Int) = n) (hdb : ∀ x ∈ dr, 0 ≤ x ∧ x < 3 * n) (hn : n = 5 ∨ n = 6) (d1 : o1.data = .cell (some (.int n tn))) (d4 : o4.data = .cell v4) (hd4 : D0 ≠ L + 4) (hoff : ∀ p ∈ rest, p.1 ≠ L + 4)
  (hQ : ∀ h tk D ws k o, Fr h₀ L h (fun y => if y = Str.ofString "drawn" then some (.ref D0) else m₀ y) → News h₀ L h ((D, listOf (List.toArray ws) k) :: (D0, listOf dv.toArray dn) :: (L+1, o1) :: (L+4, o) :: rest) → StrsAre ws (dr.map fun x => edgeOf (x.fdiv n)) → o.data = .cell (some (.ref D)) → (∀ p ∈ (D0, listOf dv.toArray dn) :: (L+1, o1) :: (L+4, o4) :: rest, p.1 ≠ D) → Q .next { s with heap := h, toks := tk })
  : wpAny (model PySem.Challenge.rw_wn0018_01.row.prog w) (ktrTop dp un gd (Str.ofString "law") lawScope L fa cd (lawCells L) outer) (exec (st 4) (envX (Str.ofString "law") lawScope L fa cd (lawCells L))) Q E s := by
  w_on
  revert KX; k_fill; intro KX
  conv in st 4 => whnf
  repeat' ((fail_if_success (with_reducible show wpAny _ _ (eval (Expr.ListComp _ _ _ _) _) _ _ _)); first | (k_unfold; (try dsimp only)) | (k_end; wrow_close) | walk1 | (dsimp only; walk1) | (leave1; walk_say "STEP leave1"; try dsimp only) | fail "no step")
  (try dsimp only)
  k_dflt (refine LCg.ListComp_U (F₀ := by k_asm) (by with_unfolding_all rfl) (by decide) (by rfl) (by decide) (by rfl) ?_)
  repeat' ((fail_if_success (with_reducible show LCg.CompSrc _ _ _ _ _ _ _ _ _ _ _ _ _ _)); first | (k_unfold; (try dsimp only)) | (k_end; wrow_close) | walk1 | (dsimp only; walk1) | (leave1; walk_say "STEP leave1"; try dsimp only) | fail "no step")
  refine LCg.CompSrc.ledger rfl (by k_asm) (by k_asm) (by k_mem) (sz_l hdv hdl hn) ?_
  intro g2
  refine kct_list (fun x => edgeOf (x.fdiv n)) hdv (fun k' t' I' oI' C' oC' D' m' ys' h' tk' E' hk' hC' hx' F' N' off' ne' mk' => ?_) ?_
  · have off0 := off'
    simp only [LCg.Off3, and_true] at off'
    have hkk := hdb k' hk'
    have hq9 : k'.fdiv n = 0 ∨ k'.fdiv n = 1 ∨ k'.fdiv n = 2 := fdiv3 hn hkk
    repeat' ((fail_if_success (with_reducible show wpAny _ _ (subscriptTail _ _ _ _) _ _ _)); first | (k_unfold; (try dsimp only)) | (k_end; wrow_close) | walk1 | (dsimp only; walk1) | (leave1; walk_say "STEP leave1"; try dsimp only) | fail "no step")
    generalize k'.fdiv n = q at *
    rcases hq9 with rfl | rfl | rfl
    all_goals k_steps
    all_goals ((with_reducible rename Fr _ _ _ _ => kF9); (with_reducible rename News _ _ _ _ => kN9))
    all_goals refine LCg.CompEnd.intro kF9 kN9 _ ?_ off0 ?_ ⟨rfl, _, rfl⟩
    all_goals first | exact fun _ h => h | kcf_all | lcg_src | exact Or.inr ⟨_, List.mem_cons_self, rfl, _, rfl⟩
  · unfold KPfDone
    intro ys hys hsz
    unfold LCg.FinE
    intro D' h' tk' F' N' o1'
    have o0' := o1'
    (try simp only [LCg.Off1, and_true] at o1')
    dsimp only
    repeat' ((fail_if_success (with_reducible show wpAny _ _ (storeName _ _ _) _ _ _)); first | (k_unfold; (try dsimp only)) | (k_end; wrow_close) | walk1 | (dsimp only; walk1) | (leave1; walk_say "STEP leave1"; try dsimp only) | fail "no step")
    (with_reducible rename Fr _ _ _ _ => kF9); (with_reducible rename News _ _ _ _ => kN9)
    refine stCell (own := [(_, _), (_, _), (_, _)]) kF9 (fun p hp => kN9 p hp) d4 ?_ hoff ?_
    · intro p hp
      simp only [List.mem_cons, List.not_mem_nil, or_false] at hp
      rcases hp with rfl | rfl | rfl
      · exact (off1_all o0' (L+4, o4) (by simp)).symm
      · exact hd4
      · dsimp only; k_ne
    intro h7 o7' F7 N7 d7'
    exact hQ _ _ _ _ _ _ F7 N7 (strs_of hys) d7' (off1_all o0')
end Mine
end
section
open PySem PySem.W PyProof.Rows
set_option maxRecDepth 100000
set_option maxHeartbeats 8000000
namespace Mine
theorem strs_of5 {α : Type} {f : α → Str} : ∀ {vs : List Value} {as : List α}, CarriedAll vs (as.map fun a => PyData.str (f a)) → StrsAre vs (as.map f)
  | _, [], .nil => .nil
  | _, _ :: _, .cons (.str _ t) r => .cons _ t (strs_of5 r)
theorem S_st5 (w : World) (mean : ExcName → Option Value) (mg mb : Str → Option Value) (dp un : Nat) (gd : Option (List Code)) (L : Addr) (outer : List Env) (A₀ : Around) (base h₀ : Heap) (m₀ : Str → Option Value) (s : Shared) (Q : Flow → Shared → Prop) (E : Value → Shared → Prop) (fa : Addr) (cd : Value) (rest : List (Addr × Obj)) (wd : Addr) (wv : List Value) (wn : Nat) (ws : List Int) (ed : Addr) (ev : List Value) (en : Nat) (es : List Str) (o1 o3 o4 o5 : Obj) (v5 : Option Value) (n : Int) (tn : Tok)
  (B : Below A₀ base outer h₀) (F : Fr h₀ L s.heap m₀) (KX : (Mine.hd.heap_39 w.params).In h₀) (N : News h₀ L s.heap ((wd, listOf wv.toArray wn) :: (ed, listOf ev.toArray en) :: (L+1, o1) :: (L+3, o3) :: (L+4, o4) :: (L+5, o5) :: rest))
  (T : Top Mine.hd.view_39 [Str.ofString "_twin_re_1", Str.ofString "_twin_re_2", Str.ofString "_sre"] mean mg mb h₀) (hdp : dp + 16 < recursionLimit) (hun : un + 128 < cLine) (hw : IntsAre wv ws) (hwl : (ws.length : Int) = n) (he : StrsAre ev es) (hel : (es.length : Int) = n) (hn : 0 ≤ n ∧ n ≤ 6) (hwb : ∀ u : Int, 0 ≤ u → u < n → 0 ≤ ws.getD u.toNat 0 ∧ ws.getD u.toNat 0 ≤ 5 ∧ (es.getD u.toNat Str.empty).length ≤ 2) (d1 : o1.data = .cell (some (.int n tn))) (d3 : o3.data = .cell (some (.ref wd))) (d4 : o4.data = .cell (some (.ref ed))) (d5 : o5.data = .cell v5) (hw5 : wd ≠ L + 5) (he5 : ed ≠ L + 5) (hoff : ∀ p ∈ rest, p.1 ≠ L + 5)
  (hQ : ∀ h tk D ps k o, Fr h₀ L h m₀ → News h₀ L h ((D, listOf (List.toArray ps) k) :: (wd, listOf wv.toArray wn) :: (ed, listOf ev.toArray en) :: (L+1, o1) :: (L+3, o3) :: (L+4, o4) :: (L+5, o) :: rest) → StrsAre ps ((rangeKs 0 (n - 0).toNat).map fun u => (Txt.mul (Str.ofString " ") (ws.getD u.toNat 0) ++ Str.ofString "K" ++ es.getD u.toNat Str.empty ++ Str.ofString "." ++ Txt.mul (Str.ofString " ") (ws.getD u.toNat 0))) → o.data = .cell (some (.ref D)) → (∀ p ∈ (wd, listOf wv.toArray wn) :: (ed, listOf ev.toArray en) :: (L+1, o1) :: (L+3, o3) :: (L+4, o4) :: (L+5, o5) :: rest, p.1 ≠ D) → Q .next { s with heap := h, toks := tk })
  : wpAny (model PySem.Challenge.rw_wn0018_01.row.prog w) (ktrTop dp un gd (Str.ofString "law") lawScope L fa cd (lawCells L) outer) (exec (st 5) (envX (Str.ofString "law") lawScope L fa cd (lawCells L))) Q E s := by
  w_on
  revert KX; k_fill; intro KX
  conv in st 5 => whnf
  refine wpAny_Assign_Name ?_ (by rfl)
  repeat' ((fail_if_success (with_reducible show wpAny _ _ (eval (Expr.ListComp _ _ _ _) _) _ _ _)); first | (k_unfold; (try dsimp only)) | (k_end; wrow_close) | walk1 | (dsimp only; walk1) | (leave1; walk_say "STEP leave1"; try dsimp only) | fail "no step")
  (try dsimp only)
  k_dflt (refine LCg.ListComp_U (F₀ := by k_asm) (by with_unfolding_all rfl) (by decide) (by rfl) (by decide) (by rfl) ?_)
  repeat' ((fail_if_success (with_reducible show LCg.CompSrc _ _ _ _ _ _ _ _ _ _ _ _ _ _)); first | (k_unfold; (try dsimp only)) | (k_end; wrow_close) | walk1 | (dsimp only; walk1) | (leave1; walk_say "STEP leave1"; try dsimp only) | fail "no step")
  refine LCg.CompSrc.range rfl (by k_asm) (by k_asm) (by assumption) (small_one (by omega) (by omega) (by omega) (by omega)) (rangeSize_nat _ _) (sz_r0 hn) ?_
  intro g2
  refine kct_range (fun u => (Txt.mul (Str.ofString " ") (ws.getD u.toNat 0) ++ Str.ofString "K" ++ es.getD u.toNat Str.empty ++ Str.ofString "." ++ Txt.mul (Str.ofString " ") (ws.getD u.toNat 0))) (fun k' t' I' oI' C' oC' D' m' ys' h' tk' E' hlo hhi hC' hx' F' N' off' ne' mk' => ?_) ?_
  · have off0 := off'
    simp only [LCg.Off3, and_true] at off'
    have hk6 : 0 ≤ k' ∧ k' < n := rng0 hlo hhi hn.1
    obtain ⟨b1, b2, b3⟩ := hwb k' hk6.1 hk6.2
    k_steps
    all_goals ((with_reducible rename Fr _ _ _ _ => kF9); (with_reducible rename News _ _ _ _ => kN9))
    all_goals refine LCg.CompEnd.intro kF9 kN9 _ ?_ off0 ?_ ⟨rfl, _, rfl⟩
    all_goals first | exact fun _ h => h | kcf_all | lcg_src | exact Or.inr ⟨_, List.mem_cons_self, rfl, _, rfl⟩
  · unfold KPfDone
    intro ys hys hsz
    unfold LCg.FinE
    intro D' h' tk' F' N' o1'
    have o0' := o1'
    (try simp only [LCg.Off1, and_true] at o1')
    dsimp only
    repeat' ((fail_if_success (with_reducible show wpAny _ _ (storeName _ _ _) _ _ _)); first | (k_unfold; (try dsimp only)) | (k_end; wrow_close) | walk1 | (dsimp only; walk1) | (leave1; walk_say "STEP leave1"; try dsimp only) | fail "no step")
    (with_reducible rename Fr _ _ _ _ => kF9); (with_reducible rename News _ _ _ _ => kN9)
    refine stCell (own := [(_, _), (_, _), (_, _), (_, _), (_, _), (_, _)]) kF9 (fun p hp => kN9 p hp) d5 ?_ hoff ?_
    · intro p hp
      simp only [List.mem_cons, List.not_mem_nil, or_false] at hp
      rcases hp with rfl | rfl | rfl | rfl | rfl | rfl
      · exact (off1_all o0' (L+5, o5) (by simp)).symm
      · exact hw5
      · exact he5
      · dsimp only; k_ne
      · dsimp only; k_ne
      · dsimp only; k_ne
    intro h7 o7' F7 N7 d7'
    exact hQ _ _ _ _ _ _ F7 N7 (strs_of5 hys) d7' (off1_all o0')
end Mine
end
section
open PySem PySem.W PyProof.Rows
set_option maxRecDepth 100000
set_option maxHeartbeats 8000000
namespace Mine
theorem S_st6 (w : World) (mean : ExcName → Option Value) (mg mb : Str → Option Value) (dp un : Nat) (gd : Option (List Code)) (L : Addr) (outer : List Env) (A₀ : Around) (base h₀ : Heap) (m₀ : Str → Option Value) (s : Shared) (Q : Flow → Shared → Prop) (E : Value → Shared → Prop) (fa : Addr) (cd : Value) (rest : List (Addr × Obj)) (o1 o6 : Obj) (v6 : Option Value) (n : Int) (tn : Tok)
  (B : Below A₀ base outer h₀) (F : Fr h₀ L s.heap m₀) (KX : (Mine.hd.heap_39 w.params).In h₀) (N : News h₀ L s.heap ((L+1, o1) :: (L+6, o6) :: rest))
  (T : Top Mine.hd.view_39 [Str.ofString "_twin_re_1", Str.ofString "_twin_re_2", Str.ofString "_sre"] mean mg mb h₀) (hdp : dp + 16 < recursionLimit) (hun : un + 128 < cLine) (hn : n = 5 ∨ n = 6) (d1 : o1.data = .cell (some (.int n tn))) (d6 : o6.data = .cell v6) (hoff : ∀ p ∈ rest, p.1 ≠ L + 6)
  (hQ : ∀ h tk D fv k D1 w1 o, Fr h₀ L h m₀ → News h₀ L h ((D, listOf (List.toArray fv) k) :: (D1, listOf (List.toArray w1) 0) :: (L+1, o1) :: (L+6, o) :: rest) → IntsAre fv ((List.replicate n.toNat [(0 : Int)]).flatten) → o.data = .cell (some (.ref D)) → (∀ p ∈ (D1, listOf (List.toArray w1) 0) :: (L+1, o1) :: (L+6, o6) :: rest, p.1 < D) → Q .next { s with heap := h, toks := tk })
  : wpAny (model PySem.Challenge.rw_wn0018_01.row.prog w) (ktrTop dp un gd (Str.ofString "law") lawScope L fa cd (lawCells L) outer) (exec (st 6) (envX (Str.ofString "law") lawScope L fa cd (lawCells L))) Q E s := by
  w_on
  revert KX; k_fill; intro KX
  conv in st 6 => whnf
  repeat' ((fail_if_success (with_reducible show wpAny _ _ (storeName _ _ _) _ _ _)); first | (k_unfold; (try dsimp only)) | (k_end; wrow_close) | walk1 | (dsimp only; walk1) | (leave1; walk_say "STEP leave1"; try dsimp only) | fail "no step")
  (with_reducible rename Fr _ _ _ _ => kF9); (with_reducible rename News _ _ _ _ => kN9)
  (with_reducible rename IntsAre _ _ => hI7)
  rename _ < _ ∧ _ ∧ _ ∧ AllLt _ rest => l1
  rename _ < _ ∧ _ ∧ AllLt _ rest => l2
  refine stCell (own := [(_, _), (_, _), (_, _)]) kF9 (fun p hp => kN9 p hp) d6 ?_ hoff ?_
  · intro p hp
    simp only [List.mem_cons, List.not_mem_nil, or_false] at hp
    rcases hp with rfl | rfl | rfl
    · exact Nat.ne_of_gt l1.2.2.1
    · exact Nat.ne_of_gt l2.2.1
    · dsimp only; k_ne
  intro h7 o7' F7 N7 d7'
  exact hQ _ _ _ _ _ _ [_] _ F7 N7 hI7 d7' (ktn_ltOf (l := (_, _) :: (L+1, o1) :: (L+6, o6) :: rest) l1)
end Mine
end
section
open PySem PySem.W PyProof.Rows
set_option maxRecDepth 100000
set_option maxHeartbeats 8000000
namespace Mine
local macro_rules | `(tactic| k_all) => `(tactic| assumption)
local macro_rules | `(tactic| walk_at "call ref") => `(tactic| (k_here; k_dflt (refine' C_granted _ _ _ _ _ _ _ _ _ ?h0 ?h1 ?h2 _ _ _ _ _ _ _ _ _ _ _ _ _ _ _ _ _ ?k1 ?k2 ?k3 ?k4 ?k5 ?kK ?kd ?ku ?kR; (case k1 => k_asm); (case k2 => k_asm); (case k3 => k_asm); (case k4 => k_asm); (case k5 => k_asm); (case kK => first | exact rfl | assumption); (case kd => ktr_room); (case ku => ktr_units); (case h0 => assumption); (case h1 => assumption); (case h2 => assumption);); intro r9 tl9 h9 tk9 hR9 F9 N9; obtain ⟨hE9, d9, hp9, hs9, hV9⟩ := hR9; subst hE9; subst hV9; (try simp only [List.nil_append] at N9); (try dsimp only)))
theorem S_st7 (w : World) (mean : ExcName → Option Value) (mg mb : Str → Option Value) (dp un : Nat) (gd : Option (List Code)) (L : Addr) (outer : List Env) (A₀ : Around) (base h₀ : Heap) (m₀ : Str → Option Value) (s : Shared) (Q : Flow → Shared → Prop) (E : Value → Shared → Prop) (fa : Addr) (cd : Value) (rest : List (Addr × Obj)) (wd : Addr) (wv : List Value) (wn : Nat) (ws : List Int) (o3 : Obj)
  (B : Below A₀ base outer h₀) (F : Fr h₀ L s.heap m₀) (KX : (Mine.hd.heap_39 w.params).In h₀) (N : News h₀ L s.heap ((wd, listOf wv.toArray wn) :: (L+3, o3) :: rest))
  (T : Top Mine.hd.view_39 [Str.ofString "_twin_re_1", Str.ofString "_twin_re_2", Str.ofString "_sre"] mean mg mb h₀) (hdp : dp + 16 < recursionLimit) (hun : un + 128 < cLine) (hw : IntsAre wv ws) (hwl : ws.length ≤ 6) (hwb : ∀ x ∈ ws, 0 ≤ x ∧ x ≤ 6) (d3 : o3.data = .cell (some (.ref wd)))
  (hQ : ∀ h tk d, d.Perm ws → d.Pairwise (fun x y => y ≤ x) → Fr h₀ L h (fun y => if y = Str.ofString "can" then some (.bool (gr d)) else m₀ y) → News h₀ L h ((wd, listOf wv.toArray wn) :: (L+3, o3) :: rest) → Q .next { s with heap := h, toks := tk })
  : wpAny (model PySem.Challenge.rw_wn0018_01.row.prog w) (ktrTop dp un gd (Str.ofString "law") lawScope L fa cd (lawCells L) outer) (exec (st 7) (envX (Str.ofString "law") lawScope L fa cd (lawCells L))) Q E s := by
  w_on
  revert KX; k_fill; intro KX
  conv in st 7 => whnf
  k_steps
  (with_reducible rename Fr _ _ _ _ => kF9); (with_reducible rename News _ _ _ _ => kN9)
  rename List.Perm _ _ => hp9; rename List.Pairwise _ _ => hs9
  exact hQ _ _ _ hp9 hs9 kF9 (fun p hp => kN9 p (by first | exact hp | kcf_m))
end Mine
end
section
open PySem PySem.W PyProof.Rows
set_option maxRecDepth 100000
set_option maxHeartbeats 8000000
namespace Mine
theorem let_ap : ∀ n : Nat, n < 64 → Txt.lstripChars (Txt.item (Str.ofString "ABCDEFGHIJKLMNOP") ((n : Int).fdiv 16) ++ Txt.item (Str.ofString "ABCDEFGHIJKLMNOP") ((n : Int).fmod 16)) (Str.ofString "A") = apT n := by decide +kernel
theorem let_ap' {b : Int} (h : 0 ≤ b ∧ b < 64) : Txt.lstripChars (Txt.item (Str.ofString "ABCDEFGHIJKLMNOP") (b.fdiv 16) ++ Txt.item (Str.ofString "ABCDEFGHIJKLMNOP") (b.fmod 16)) (Str.ofString "A") = apT b.toNat := by
  have e : b = ((b.toNat : Nat) : Int) := by omega
  have := let_ap b.toNat (by omega)
  rw [← e] at this
  exact this
local macro_rules | `(tactic| k_all) => `(tactic| assumption)
local macro_rules | `(tactic| walk_at "call builtin:bytes.decode") => `(tactic| (k_here; (show wpAny _ _ (call (Value.builtin "bytes.decode") [Value.bytes _ _, Value.str _ _]) _ _ _); (refine decode_ap (by assumption) (by assumption) ?_); intro t8 k8; (try dsimp only)))
local macro_rules | `(tactic| walk_at "call ref") => `(tactic| (k_here; (with_reducible show wpAny _ _ (call (Value.ref 59) _) _ _ _); k_dflt (refine' C_int2ap _ _ _ _ _ _ _ ?h0 _ _ _ _ _ _ _ _ _ _ _ _ _ _ _ _ _ ?k1 ?k2 ?k3 ?k4 ?k5 ?kK ?kd ?ku ?kR; (case k1 => k_asm); (case k2 => k_asm); (case k3 => k_asm); (case k4 => k_asm); (case k5 => k_asm); (case kK => first | exact rfl | assumption); (case kd => ktr_room); (case ku => ktr_units); (case h0 => assumption);); intro r9 tl9 h9 tk9 hR9 F9 N9; obtain ⟨hE9, t9, v9, hV9, hb9⟩ := hR9; subst hE9; subst hV9; (try simp only [List.nil_append] at N9); (try dsimp only)))
theorem S_st9 (w : World) (mean : ExcName → Option Value) (mg mb : Str → Option Value) (dp un : Nat) (gd : Option (List Code)) (L : Addr) (outer : List Env) (A₀ : Around) (base h₀ : Heap) (m₀ : Str → Option Value) (s : Shared) (Q : Flow → Shared → Prop) (E : Value → Shared → Prop) (fa : Addr) (cd : Value) (rest : List (Addr × Obj)) (p : Addr) (ps : List Value) (pn : Nat) (xs : List Str) (f : Addr) (fv : List Value) (fn : Nat) (fs : List Int) (o1 o5 o6 o7 : Obj) (n : Int) (tn : Tok) (v7 : Option Value)
  (B : Below A₀ base outer h₀) (F : Fr h₀ L s.heap m₀) (KX : (Mine.hd.heap_39 w.params).In h₀) (N : News h₀ L s.heap ((p, listOf ps.toArray pn) :: (f, listOf fv.toArray fn) :: (L+1, o1) :: (L+5, o5) :: (L+6, o6) :: (L+7, o7) :: rest))
  (T : Top Mine.hd.view_39 [Str.ofString "_twin_re_1", Str.ofString "_twin_re_2", Str.ofString "_sre"] mean mg mb h₀) (hdp : dp + 16 < recursionLimit) (hun : un + 128 < cLine) (hp : StrsAre ps xs) (hpl : (xs.length : Int) = n) (hf : IntsAre fv fs) (hfl : (fs.length : Int) = n) (hn : 0 ≤ n ∧ n ≤ 6) (d1 : o1.data = .cell (some (.int n tn))) (d5 : o5.data = .cell (some (.ref p))) (d6 : o6.data = .cell (some (.ref f))) (d7 : o7.data = .cell v7) (hp7 : p ≠ L + 7) (hf7 : f ≠ L + 7) (hoff : ∀ r ∈ rest, r.1 ≠ L + 7) (hE : PassesOwn (model PySem.Challenge.rw_wn0018_01.row.prog w) (ktrTop dp un gd (Str.ofString "law") lawScope L fa cd (lawCells L) outer) (envX (Str.ofString "law") lawScope L fa cd (lawCells L)) E) (hu : ∀ u : Int, 0 ≤ u → u < n → (xs.getD u.toNat Str.empty).length ≤ 100 ∧ (0 ≤ fs.getD u.toNat 0 ∧ fs.getD u.toNat 0 < 64))
  (hQ : ∀ h tk m o v, o.data = .cell v → Fr h₀ L h m → News h₀ L h ((p, listOf ps.toArray pn) :: (f, listOf fv.toArray fn) :: (L+1, o1) :: (L+5, o5) :: (L+6, o6) :: (L+7, o) :: rest) → Q .next { s with heap := h, toks := tk })
  : wpAny (model PySem.Challenge.rw_wn0018_01.row.prog w) (ktrTop dp un gd (Str.ofString "law") lawScope L fa cd (lawCells L) outer) (exec (st 9) (envX (Str.ofString "law") lawScope L fa cd (lawCells L))) Q E s := by
  w_on
  revert KX; k_fill; intro KX
  conv in st 9 => whnf
  refine ForR (h₀ := h₀) rfl ?_ (hE := hE)
  k_steps
  refine ⟨_, _, _, _, _, _, (n - 0).toNat, _, _, fun i m nw => ∃ o7 v7, nw = (p, listOf ps.toArray pn) :: (f, listOf fv.toArray fn) :: (L+1, o1) :: (L+5, o5) :: (L+6, o6) :: (L+7, o7) :: rest ∧ o7.data = .cell v7, rfl, by assumption, ?_, ?_, by assumption, by assumption, ⟨_, _, rfl, d7⟩, ?_, ?_⟩
  · exact small_one (by omega) (by omega) (by omega) (by omega)
  · exact rangeSize_nat _ _
  · rintro i m₁ nw I oI hh tk9 t9 hi9 ⟨o7', v7', rfl, d7'⟩ F9 N9 hI9 hLI
    have hI0 := hI9
    have hcI : L + 7 ≠ I := hI9 (L+7, o7') (by simp)
    replace N9 : News h₀ L hh ([(I, oI), (p, listOf ps.toArray pn), (f, listOf fv.toArray fn), (L+1, o1), (L+5, o5), (L+6, o6)] ++ (L+7, o7') :: rest) := N9
    walk1
    refine stCell F9 N9 d7' ?_ hoff ?_
    · intro r hr
      simp only [List.mem_cons, List.not_mem_nil, or_false] at hr
      rcases hr with rfl | rfl | rfl | rfl | rfl | rfl
      · exact Ne.symm hcI
      · exact hp7
      · exact hf7
      all_goals (dsimp only; k_ne)
    clear F9 N9 d7'
    intro hh1 o79 F8 N8 d79
    simp only [List.cons_append, List.nil_append] at N8
    obtain ⟨u, hu0⟩ : ∃ u : Int, u = 0 + (i : Int) := ⟨_, rfl⟩
    rw [← hu0] at d79
    have hu1 : 0 ≤ u ∧ u < n := by omega
    obtain ⟨hux, huf⟩ := hu u hu1.1 hu1.2
    have hub : (fs.getD u.toNat 0).toNat < 64 := by omega
    have hap := apT_len (b := (fs.getD u.toNat 0).toNat)
    have hap1 : (apT (fs.getD u.toNat 0).toNat).length ≤ 100 := by omega
    have hlt9 := let_ap' huf
    k_steps
    (with_reducible rename Fr _ _ _ _ => kF9); (with_reducible rename News _ _ _ _ => kN9)
    ((refine' C_locn _ _ _ _ _ _ _ _ _ _ _ ?h0 ?h1 _ _ _ _ _ _ _ _ _ _ _ _ _ _ _ _ _ ?k1 ?k2 ?k3 ?k4 ?k5 ?kK ?kd ?ku ?kR; (case k1 => k_asm); (case k2 => k_asm); (case k3 => k_asm); (case k4 => exact kN9); (case k5 => k_asm); (case kK => first | exact rfl | assumption); (case kd => ktr_room); (case ku => ktr_units); (case h0 => assumption); (case h1 => assumption);); intro r6 tl6 h6 tk6 hR6 F6 N6; obtain ⟨hE6, t6, hV6⟩ := hR6; subst hE6; subst hV6; (try simp only [List.nil_append] at N6); (try dsimp only))
    k_steps
    ((refine' C_letters _ _ _ _ _ _ _ ?h0z _ _ _ _ _ _ _ _ _ _ _ _ _ _ _ _ _ ?k1z ?k2z ?k3z ?k4z ?k5z ?kKz ?kdz ?kuz ?kRz; (case k1z => k_asm); (case k2z => k_asm); (case k3z => k_asm); (case k4z => k_asm); (case k5z => k_asm); (case kKz => first | exact rfl | assumption); (case kdz => ktr_room); (case kuz => ktr_units); (case h0z => assumption);); intro r7 tl7 h7 tk7 hR7 F7 N7; obtain ⟨hE7, t7, hV7⟩ := hR7; subst hE7; subst hV7; (try simp only [List.nil_append] at N7); (try dsimp only))
    simp only [hlt9]
    k_steps
    · exfalso
      rename (_ != _) = true => hno
      rw [bne_self_eq_false] at hno
      cases hno
    · (with_reducible rename Fr _ _ _ _ => kF9); (with_reducible rename News _ _ _ _ => kN9)
      have hI1 : ∀ r ∈ (p, listOf ps.toArray pn) :: (f, listOf fv.toArray fn) :: (L+1, o1) :: (L+5, o5) :: (L+6, o6) :: (L+7, o79) :: rest, r.1 ≠ I := by
        intro r hr
        simp only [List.mem_cons] at hr
        rcases hr with rfl | rfl | rfl | rfl | rfl | rfl | hr
        · exact hI0 (_, _) (by simp)
        · exact hI0 (_, _) (by simp)
        · exact hI0 (L+1, o1) (by simp)
        · exact hI0 (L+5, o5) (by simp)
        · exact hI0 (L+6, o6) (by simp)
        · exact hcI
        · exact hI0 r (by simp [hr])
      exact TurnEnd.next kF9 (fun p hp => kN9 p (by first | exact hp | kcf_m)) hI1 ⟨_, _, rfl, d79⟩
  · rintro m₁ nw hh tk9 ⟨o7', v7', rfl, d7'⟩ F9 N9
    exact hQ _ _ _ _ _ d7' F9 N9
end Mine
end
section
open PySem PySem.W PyProof.Rows
set_option maxRecDepth 100000
set_option maxHeartbeats 8000000
namespace Mine
theorem S_st10 (w : World) (mean : ExcName → Option Value) (mg mb : Str → Option Value) (dp un : Nat) (gd : Option (List Code)) (L : Addr) (outer : List Env) (A₀ : Around) (base h₀ : Heap) (m₀ : Str → Option Value) (s : Shared) (Q : Flow → Shared → Prop) (E : Value → Shared → Prop) (fa : Addr) (cd : Value) (rest : List (Addr × Obj)) 
  (B : Below A₀ base outer h₀) (F : Fr h₀ L s.heap m₀) (KX : (Mine.hd.heap_39 w.params).In h₀) (N : News h₀ L s.heap (rest))
  (T : Top Mine.hd.view_39 [Str.ofString "_twin_re_1", Str.ofString "_twin_re_2", Str.ofString "_sre"] mean mg mb h₀) (hdp : dp + 16 < recursionLimit) (hun : un + 128 < cLine) 
  (hQ : ∀ h tk m, Fr h₀ L h m → Q (.ret (.bool true)) { s with heap := h, toks := tk })
  : wpAny (model PySem.Challenge.rw_wn0018_01.row.prog w) (ktrTop dp un gd (Str.ofString "law") lawScope L fa cd (lawCells L) outer) (exec (st 10) (envX (Str.ofString "law") lawScope L fa cd (lawCells L))) Q E s := by
  w_on
  revert KX; k_fill; intro KX
  conv in st 10 => whnf
  k_steps
  (with_reducible rename Fr _ _ _ _ => kF9)
  exact hQ _ _ _ kF9
end Mine
end
section
open PySem PySem.W PyProof.Rows
set_option maxRecDepth 100000
set_option maxHeartbeats 8000000
namespace Mine
/-- the k-th inequality, in naturals -/
noncomputable def okF (d : List Nat) (k : Nat) : Bool := Nat.ble (d.take k).sum (k * (k - 1) + ((d.drop k).map (fun x => min x k)).sum)
noncomputable def grF (d : List Nat) : Bool := (List.range d.length).all (fun j => okF d (j + 1)) && d.sum % 2 == 0
noncomputable def insD (x : Nat) : List Nat → List Nat
  | [] => [x]
  | y :: r => if Nat.ble x y then y :: insD x r else x :: y :: r
noncomputable def sortD : List Nat → List Nat
  | [] => []
  | x :: r => insD x (sortD r)
noncomputable def grS (l : List Nat) : Bool := grF (sortD l)
theorem insD_perm (x : Nat) : ∀ l, (insD x l).Perm (x :: l)
  | [] => .refl _
  | y :: r => by
    unfold insD
    split
    · exact ((insD_perm x r).cons y).trans (.swap x y r)
    · exact .refl _
theorem sortD_perm : ∀ l, (sortD l).Perm l
  | [] => .refl _
  | x :: r => (insD_perm x _).trans ((sortD_perm r).cons x)
theorem insD_sorted (x : Nat) : ∀ l, l.Pairwise (fun a b => b ≤ a) → (insD x l).Pairwise (fun a b => b ≤ a)
  | [], _ => by simp [insD]
  | y :: r, h => by
    obtain ⟨h1, h2⟩ := List.pairwise_cons.mp h
    unfold insD
    split
    · rename_i hc
      have hc := Nat.le_of_ble_eq_true hc
      refine List.pairwise_cons.mpr ⟨fun z hz => ?_, insD_sorted x r h2⟩
      rcases List.mem_cons.mp ((insD_perm x r).mem_iff.mp hz) with rfl | hz
      · exact hc
      · exact h1 z hz
    · rename_i hc
      have hc : y ≤ x := by
        rcases Nat.le_total x y with q | q
        · exact absurd (Nat.ble_eq_true_of_le q) hc
        · exact q
      refine List.pairwise_cons.mpr ⟨fun z hz => ?_, h⟩
      rcases List.mem_cons.mp hz with rfl | hz
      · exact hc
      · exact Nat.le_trans (h1 z hz) hc
theorem sortD_sorted : ∀ l, (sortD l).Pairwise (fun a b => b ≤ a)
  | [] => .nil
  | x :: r => insD_sorted x _ (sortD_sorted r)
theorem sorted_uniq {a b : List Nat} (h : a.Perm b) (ha : a.Pairwise (fun x y => y ≤ x)) (hb : b.Pairwise (fun x y => y ≤ x)) : a = b :=
  h.eq_of_pairwise (fun x y _ _ h1 h2 => Nat.le_antisymm h2 h1) ha hb
theorem grS_perm {a b : List Nat} (h : a.Perm b) : grS a = grS b := by
  unfold grS
  rw [sorted_uniq (((sortD_perm a).trans h).trans (sortD_perm b).symm) (sortD_sorted a) (sortD_sorted b)]
theorem sum_cast : ∀ l : List Nat, (l.map (fun x : Nat => (x : Int))).sum = ((l.sum : Nat) : Int)
  | [] => rfl
  | x :: r => by simp [sum_cast r]
theorem okB_cast (d : List Nat) (j : Nat) : okB (d.map (fun x : Nat => (x : Int))) (j + 1) = okF d (j + 1) := by
  unfold okB okF
  have e1 : (((j + 1 : Nat) : Int)) * (((j + 1 : Nat) : Int) - 1) = (((j + 1) * (j + 1 - 1) : Nat) : Int) := by
    rw [Nat.add_sub_cancel, Int.natCast_mul]
    congr 1
    omega
  have e2 : (((d.map (fun x : Nat => (x : Int))).drop (j + 1)).map (fun x => if x < ((j + 1 : Nat) : Int) then x else ((j + 1 : Nat) : Int))) = (((d.drop (j + 1)).map (fun x => min x (j + 1))).map (fun x : Nat => (x : Int))) := by
    rw [← List.map_drop, List.map_map, List.map_map]
    refine List.map_congr_left fun x _ => ?_
    show (if (x : Int) < ((j + 1 : Nat) : Int) then (x : Int) else ((j + 1 : Nat) : Int)) = ((min x (j + 1) : Nat) : Int)
    split <;> omega
  rw [e1, e2, ← List.map_take, sum_cast, sum_cast, ← Int.natCast_add]
  rw [Bool.eq_iff_iff, decide_eq_true_eq, Nat.ble_eq]
  exact Int.ofNat_le
theorem gr_cast (d : List Nat) : gr (d.map (fun x : Nat => (x : Int))) = grF d := by
  unfold gr grF
  rw [List.length_map, sum_cast]
  congr 1
  · congr 1
    funext j
    exact okB_cast d j
  · rw [Bool.eq_iff_iff, beq_iff_eq, beq_iff_eq, Int.fmod_eq_emod_of_nonneg _ (by decide)]
    omega
theorem gr_of {d : List Int} {l : List Nat} (h : d.Perm (l.map (fun x : Nat => (x : Int)))) (hs : d.Pairwise (fun x y => y ≤ x)) : gr d = grS l := by
  have e : d = (sortD l).map (fun x : Nat => (x : Int)) := by
    refine (h.trans ((sortD_perm l).symm.map _)).eq_of_pairwise (fun x y _ _ h1 h2 => Int.le_antisymm h2 h1) hs ?_
    exact List.pairwise_map.mpr ((sortD_sorted l).imp fun h => Int.ofNat_le.mpr h)
  rw [e, gr_cast]; rfl
/-- falling lists of k numbers up to b -/
noncomputable def desc : Nat → Nat → List (List Nat)
  | 0, _ => [[]]
  | k + 1, b => (List.range (b + 1)).flatMap fun x => (desc k x).map (x :: ·)
theorem desc_mem : ∀ (l : List Nat) (b : Nat), l.Pairwise (fun x y => y ≤ x) → (∀ x ∈ l, x ≤ b) → l ∈ desc l.length b
  | [], _, _, _ => by simp [desc]
  | x :: r, b, h, hb => by
    obtain ⟨h1, h2⟩ := List.pairwise_cons.mp h
    have := desc_mem r x h2 h1
    simp only [List.length_cons, desc, List.mem_flatMap, List.mem_range, List.mem_map]
    exact ⟨x, Nat.lt_succ_of_le (hb x (.head _)), r, this, rfl⟩
/-- the step of Havel, Hakimi, Kleitman and Wang, for the one that wishes c and those that wait -/
noncomputable def stepOk (c : Nat) (l : List Nat) : Bool :=
  if Nat.ble c l.length && (l.take c).all (fun x => Nat.blt 0 x) then grF (insD c l) == grS ((l.take c).map Nat.pred ++ l.drop c) else !grF (insD c l)
noncomputable def stepAll (k : Nat) (c : Nat) : Bool := (desc k 5).all (stepOk c)
theorem step5_0 : stepAll 5 0 = true := by decide +kernel
theorem step5_1 : stepAll 5 1 = true := by decide +kernel
theorem step5_2 : stepAll 5 2 = true := by decide +kernel
theorem step5_3 : stepAll 5 3 = true := by decide +kernel
theorem step5_4 : stepAll 5 4 = true := by decide +kernel
theorem step5_5 : stepAll 5 5 = true := by decide +kernel
theorem step_low : ((List.range 5).all fun k => (List.range 6).all fun c => stepAll k c) = true := by decide +kernel
theorem stepAll_of (k c : Nat) (hk : k ≤ 5) (hc : c ≤ 5) : stepAll k c = true := by
  rcases Nat.lt_or_ge k 5 with h | h
  · have := List.all_eq_true.mp step_low k (List.mem_range.mpr h)
    exact List.all_eq_true.mp this c (List.mem_range.mpr (by omega))
  · have hk5 : k = 5 := by omega
    subst hk5
    have : c = 0 ∨ c = 1 ∨ c = 2 ∨ c = 3 ∨ c = 4 ∨ c = 5 := by omega
    rcases this with rfl | rfl | rfl | rfl | rfl | rfl
    · exact step5_0
    · exact step5_1
    · exact step5_2
    · exact step5_3
    · exact step5_4
    · exact step5_5
theorem step_of {c : Nat} {l : List Nat} (hc : c ≤ 5) (hl : l.length ≤ 5) (hb : ∀ x ∈ l, x ≤ 5) (hs : l.Pairwise (fun x y => y ≤ x)) : stepOk c l = true :=
  List.all_eq_true.mp (stepAll_of l.length c hl hc) l (desc_mem l 5 hs hb)
theorem insD_sort {c : Nat} {l : List Nat} (hs : l.Pairwise (fun x y => y ≤ x)) : grS (c :: l) = grF (insD c l) := by
  unfold grS
  have : sortD l = l := sorted_uniq (sortD_perm l) (sortD_sorted l) hs
  show grF (insD c (sortD l)) = _
  rw [this]
/-- those asked lose one each -/
theorem step_go {c : Nat} {l : List Nat} (hc : c ≤ 5) (hl : l.length ≤ 5) (hb : ∀ x ∈ l, x ≤ 5) (hs : l.Pairwise (fun x y => y ≤ x)) (h1 : c ≤ l.length) (h2 : ∀ x ∈ l.take c, 0 < x) :
    grS (c :: l) = grS ((l.take c).map Nat.pred ++ l.drop c) := by
  have h := step_of hc hl hb hs
  have g : (Nat.ble c l.length && (l.take c).all (fun x => Nat.blt 0 x)) = true := by
    rw [Bool.and_eq_true]
    exact ⟨Nat.ble_eq_true_of_le h1, List.all_eq_true.mpr fun x hx => Nat.ble_eq_true_of_le (h2 x hx)⟩
  unfold stepOk at h
  rw [if_pos g] at h
  rw [insD_sort hs]
  exact eq_of_beq h
theorem step_no {c : Nat} {l : List Nat} (hc : c ≤ 5) (hl : l.length ≤ 5) (hb : ∀ x ∈ l, x ≤ 5) (hs : l.Pairwise (fun x y => y ≤ x)) (h : l.length < c ∨ ∃ x ∈ l.take c, x = 0) :
    grS (c :: l) = false := by
  have h' := step_of hc hl hb hs
  have g : ¬ (Nat.ble c l.length && (l.take c).all (fun x => Nat.blt 0 x)) = true := by
    rw [Bool.and_eq_true]
    rintro ⟨g1, g2⟩
    rcases h with h | ⟨x, hx, rfl⟩
    · exact absurd (Nat.le_of_ble_eq_true g1) (by omega)
    · have := List.all_eq_true.mp g2 0 hx
      cases this
  unfold stepOk at h'
  rw [if_neg g] at h'
  rw [insD_sort hs]
  simpa using h'
end Mine
end
section
open PySem PySem.W PyProof.Rows
set_option maxRecDepth 100000
set_option maxHeartbeats 8000000
namespace Mine
noncomputable def edS (e : Nat) : Str := if e = 0 then Str.ofString "\n" else if e = 1 then Str.ofString "\x0d\n" else Str.ofString "\x0d"
noncomputable def edL (p : Nat) (e : Nat) : List Nat := if p = 0 then (if e = 0 then [10] else if e = 1 then [13, 10] else [13]) else [13, 10]
noncomputable def core (p e : Nat) : List Nat := 75 :: (edL p e ++ List.replicate (p + 1) 46)
/-- a mail -/
noncomputable def mlS (r p w e : Nat) : Str := ⟨(List.replicate r 32 ++ core p e ++ List.replicate w 32).toArray⟩
theorem edL_len (p e : Nat) : (edL p e).length ≤ 2 := by
  unfold edL
  split
  · split
    · simp
    · split <;> simp
  · simp
theorem core_len (p e : Nat) : (core p e).length ≤ p + 4 := by
  have := edL_len p e
  unfold core
  simp only [List.length_cons, List.length_append, List.length_replicate]
  omega
theorem ml_list (r p w e : Nat) : (mlS r p w e).cps.toList = List.replicate r 32 ++ core p e ++ List.replicate w 32 := rfl
theorem ml_len (r p w e : Nat) : (mlS r p w e).length ≤ r + p + w + 4 := by
  rw [len_list, ml_list]
  have := core_len p e
  simp only [List.length_append, List.length_replicate]
  omega
theorem ml_pad (r p w e : Nat) : Pad (mlS r p w e) r (core p e) w where
  eq := rfl
  first := ⟨75, _, rfl, by decide⟩
  last := ⟨46, 75 :: (edL p e ++ List.replicate p 46), by unfold core; rw [List.replicate_succ']; simp, by decide⟩
theorem str_eq {x y : Str} (h : x.cps.toList = y.cps.toList) : x = y := by
  cases x; cases y; congr 1; exact Array.toList_inj.mp h
/-- the blanks ahead -/
noncomputable def fOk (r p w e : Nat) : Bool := Txt.find (mlS r p w e) (Str.ofString "K") == (r : Int) && (Builtin.Str.occurrences (mlS r p w e) (Str.ofString "K") 0 (mlS r p w e).length 1).isEmpty == false
noncomputable def fAll (w p e : Nat) : Bool := (List.range (w + 1)).all fun r => Nat.blt (p + (w - r)) 6 |>.not.or (fOk r p w e)
theorem f0 : ((List.range 6).all fun w => fAll w 0 0) = true := by decide +kernel
theorem f1 : ((List.range 6).all fun w => fAll w 0 1) = true := by decide +kernel
theorem f2 : ((List.range 6).all fun w => fAll w 0 2) = true := by decide +kernel
theorem f3 : ((List.range 6).all fun w => fAll w 1 0 && fAll w 2 0) = true := by decide +kernel
theorem f4 : ((List.range 6).all fun w => fAll w 3 0 && fAll w 4 0 && fAll w 5 0) = true := by decide +kernel
theorem ml_edge {p : Nat} (hp : p ≠ 0) (r w e : Nat) : mlS r p w e = mlS r p w 0 := by
  unfold mlS core edL
  rw [if_neg hp, if_neg hp]
theorem fall_of {r p w e : Nat} (hw : w ≤ 5) (hr : r ≤ w) (he : e < 3) (hp : p + (w - r) ≤ 5) : fOk r p w e = true := by
  have key : ∀ {w p e : Nat}, w ≤ 5 → r ≤ w → p + (w - r) ≤ 5 → fAll w p e = true → fOk r p w e = true := by
    intro w p e _ hr hp h
    have := List.all_eq_true.mp h r (List.mem_range.mpr (by omega))
    have hb : Nat.blt (p + (w - r)) 6 = true := Nat.ble_eq_true_of_le (by omega)
    rw [hb] at this
    simpa using this
  have m := List.mem_range.mpr (show w < 6 by omega)
  rcases Nat.eq_zero_or_pos p with rfl | h0
  · have : e = 0 ∨ e = 1 ∨ e = 2 := by omega
    rcases this with rfl | rfl | rfl
    · exact key hw hr hp (List.all_eq_true.mp f0 w m)
    · exact key hw hr hp (List.all_eq_true.mp f1 w m)
    · exact key hw hr hp (List.all_eq_true.mp f2 w m)
  · have e1 := ml_edge (Nat.ne_of_gt h0) r w e
    have e2 : fOk r p w e = fOk r p w 0 := by unfold fOk; rw [e1]
    rw [e2]
    have h3 := List.all_eq_true.mp f3 w m
    have h4 := List.all_eq_true.mp f4 w m
    simp only [Bool.and_eq_true] at h3 h4
    have : p = 1 ∨ p = 2 ∨ p = 3 ∨ p = 4 ∨ p = 5 := by omega
    rcases this with rfl | rfl | rfl | rfl | rfl
    · exact key hw hr hp h3.1
    · exact key hw hr hp h3.2
    · exact key hw hr hp h4.1.1
    · exact key hw hr hp h4.1.2
    · exact key hw hr hp h4.2
theorem ml_find {r p w e : Nat} (hw : w ≤ 5) (hr : r ≤ w) (he : e < 3) (hp : p + (w - r) ≤ 5) :
    Txt.find (mlS r p w e) (Str.ofString "K") = (r : Int) ∧ (Builtin.Str.occurrences (mlS r p w e) (Str.ofString "K") 0 (mlS r p w e).length 1).isEmpty = false := by
  have := fall_of hw hr he hp
  unfold fOk at this
  rw [Bool.and_eq_true] at this
  exact ⟨eq_of_beq this.1, eq_of_beq this.2⟩
/-- sent once -/
noncomputable def qOk (r p w e : Nat) : Bool := quoteP (mlS r p w e) == some (mlS r (p + 1) w e) && ((subP codeB (Str.ofString "\x0d\n") (mlS r p w e)).all fun y => Nat.ble y.length 1000)
noncomputable def qAll (w p e : Nat) : Bool := (List.range (w + 1)).all fun r => Nat.blt (p + (w - r)) 5 |>.not.or (qOk r p w e)
theorem q_0_0_0 : qAll 0 0 0 = true := by decide +kernel
theorem q_1_0_0 : qAll 1 0 0 = true := by decide +kernel
theorem q_2_0_0 : qAll 2 0 0 = true := by decide +kernel
theorem q_3_0_0 : qAll 3 0 0 = true := by decide +kernel
theorem q_4_0_0 : qAll 4 0 0 = true := by decide +kernel
theorem q_5_0_0 : qAll 5 0 0 = true := by decide +kernel
theorem q_0_0_1 : qAll 0 0 1 = true := by decide +kernel
theorem q_1_0_1 : qAll 1 0 1 = true := by decide +kernel
theorem q_2_0_1 : qAll 2 0 1 = true := by decide +kernel
theorem q_3_0_1 : qAll 3 0 1 = true := by decide +kernel
theorem q_4_0_1 : qAll 4 0 1 = true := by decide +kernel
theorem q_5_0_1 : qAll 5 0 1 = true := by decide +kernel
theorem q_0_0_2 : qAll 0 0 2 = true := by decide +kernel
theorem q_1_0_2 : qAll 1 0 2 = true := by decide +kernel
theorem q_2_0_2 : qAll 2 0 2 = true := by decide +kernel
theorem q_3_0_2 : qAll 3 0 2 = true := by decide +kernel
theorem q_4_0_2 : qAll 4 0 2 = true := by decide +kernel
theorem q_5_0_2 : qAll 5 0 2 = true := by decide +kernel
theorem q_0_1_0 : qAll 0 1 0 = true := by decide +kernel
theorem q_1_1_0 : qAll 1 1 0 = true := by decide +kernel
theorem q_2_1_0 : qAll 2 1 0 = true := by decide +kernel
theorem q_3_1_0 : qAll 3 1 0 = true := by decide +kernel
theorem q_4_1_0 : qAll 4 1 0 = true := by decide +kernel
theorem q_5_1_0 : qAll 5 1 0 = true := by decide +kernel
theorem q_0_2_0 : qAll 0 2 0 = true := by decide +kernel
theorem q_1_2_0 : qAll 1 2 0 = true := by decide +kernel
theorem q_2_2_0 : qAll 2 2 0 = true := by decide +kernel
theorem q_3_2_0 : qAll 3 2 0 = true := by decide +kernel
theorem q_4_2_0 : qAll 4 2 0 = true := by decide +kernel
theorem q_5_2_0 : qAll 5 2 0 = true := by decide +kernel
theorem q_0_3_0 : qAll 0 3 0 = true := by decide +kernel
theorem q_1_3_0 : qAll 1 3 0 = true := by decide +kernel
theorem q_2_3_0 : qAll 2 3 0 = true := by decide +kernel
theorem q_3_3_0 : qAll 3 3 0 = true := by decide +kernel
theorem q_4_3_0 : qAll 4 3 0 = true := by decide +kernel
theorem q_5_3_0 : qAll 5 3 0 = true := by decide +kernel
theorem q_0_4_0 : qAll 0 4 0 = true := by decide +kernel
theorem q_1_4_0 : qAll 1 4 0 = true := by decide +kernel
theorem q_2_4_0 : qAll 2 4 0 = true := by decide +kernel
theorem q_3_4_0 : qAll 3 4 0 = true := by decide +kernel
theorem q_4_4_0 : qAll 4 4 0 = true := by decide +kernel
theorem q_5_4_0 : qAll 5 4 0 = true := by decide +kernel
theorem qall_of {r p w e : Nat} (hw : w ≤ 5) (hr : r ≤ w) (he : e < 3) (hp : p + (w - r) ≤ 4) : qOk r p w e = true := by
  have key : ∀ {w p e : Nat}, w ≤ 5 → r ≤ w → p + (w - r) ≤ 4 → qAll w p e = true → qOk r p w e = true := by
    intro w p e _ hr hp h
    have := List.all_eq_true.mp h r (List.mem_range.mpr (by omega))
    have hb : Nat.blt (p + (w - r)) 5 = true := Nat.ble_eq_true_of_le (by omega)
    rw [hb] at this
    simpa using this
  have hw' : w = 0 ∨ w = 1 ∨ w = 2 ∨ w = 3 ∨ w = 4 ∨ w = 5 := by omega
  rcases Nat.eq_zero_or_pos p with rfl | h0
  · have : e = 0 ∨ e = 1 ∨ e = 2 := by omega
    rcases this with rfl | rfl | rfl
    · rcases hw' with rfl | rfl | rfl | rfl | rfl | rfl
      all_goals refine key (by omega) hr hp ?_
      all_goals with_reducible first | exact q_0_0_0 | exact q_1_0_0 | exact q_2_0_0 | exact q_3_0_0 | exact q_4_0_0 | exact q_5_0_0
    · rcases hw' with rfl | rfl | rfl | rfl | rfl | rfl
      all_goals refine key (by omega) hr hp ?_
      all_goals with_reducible first | exact q_0_0_1 | exact q_1_0_1 | exact q_2_0_1 | exact q_3_0_1 | exact q_4_0_1 | exact q_5_0_1
    · rcases hw' with rfl | rfl | rfl | rfl | rfl | rfl
      all_goals refine key (by omega) hr hp ?_
      all_goals with_reducible first | exact q_0_0_2 | exact q_1_0_2 | exact q_2_0_2 | exact q_3_0_2 | exact q_4_0_2 | exact q_5_0_2
  · have e1 := ml_edge (Nat.ne_of_gt h0) r w e
    have e3 := ml_edge (Nat.succ_ne_zero p) r w e
    have e2 : qOk r p w e = qOk r p w 0 := by unfold qOk; rw [e1, e3]
    rw [e2]
    have : p = 1 ∨ p = 2 ∨ p = 3 ∨ p = 4 := by omega
    rcases this with rfl | rfl | rfl | rfl
    all_goals rcases hw' with rfl | rfl | rfl | rfl | rfl | rfl
    all_goals refine key (by omega) hr hp ?_
    all_goals with_reducible first | exact q_0_1_0 | exact q_1_1_0 | exact q_2_1_0 | exact q_3_1_0 | exact q_4_1_0 | exact q_5_1_0 | exact q_0_2_0 | exact q_1_2_0 | exact q_2_2_0 | exact q_3_2_0 | exact q_4_2_0 | exact q_5_2_0 | exact q_0_3_0 | exact q_1_3_0 | exact q_2_3_0 | exact q_3_3_0 | exact q_4_3_0 | exact q_5_3_0 | exact q_0_4_0 | exact q_1_4_0 | exact q_2_4_0 | exact q_3_4_0 | exact q_4_4_0 | exact q_5_4_0
theorem ml_quote {r p w e : Nat} (hw : w ≤ 5) (hr : r ≤ w) (he : e < 3) (hp : p + (w - r) ≤ 4) :
    quoteP (mlS r p w e) = some (mlS r (p + 1) w e) ∧ ∀ y, subP codeB (Str.ofString "\x0d\n") (mlS r p w e) = some y → y.length ≤ 1000 := by
  have := qall_of hw hr he hp
  unfold qOk at this
  rw [Bool.and_eq_true] at this
  refine ⟨eq_of_beq this.1, fun y hy => ?_⟩
  have h2 := this.2
  rw [hy] at h2
  exact Nat.le_of_ble_eq_true h2
end Mine
end
section
open PySem PySem.W PyProof.Rows
set_option maxRecDepth 100000
set_option maxHeartbeats 8000000
namespace Mine
theorem lex_blanks (c c' : List Nat) : ∀ (r d : Nat), List.replicate (r + 1 + d) 32 ++ 75 :: c' < List.replicate r 32 ++ 75 :: c
  | 0, d => by
    have e : List.replicate (0 + 1 + d) 32 ++ 75 :: c' = 32 :: (List.replicate d 32 ++ 75 :: c') := by
      rw [show 0 + 1 + d = d + 1 by omega, List.replicate_succ]; rfl
    rw [e]
    exact List.cons_lt_cons_iff.mpr (.inl (by decide))
  | r + 1, d => by
    have e : List.replicate (r + 1 + 1 + d) 32 ++ 75 :: c' = 32 :: (List.replicate (r + 1 + d) 32 ++ 75 :: c') := by
      rw [show r + 1 + 1 + d = (r + 1 + d) + 1 by omega, List.replicate_succ]; rfl
    rw [e, List.replicate_succ]
    exact List.cons_lt_cons_iff.mpr (.inr ⟨rfl, lex_blanks c c' r d⟩)
theorem ml_lt {r p w e r' p' w' e' : Nat} (h : r < r') : (mlS r' p' w' e').cps.toList < (mlS r p w e).cps.toList := by
  rw [ml_list, ml_list]
  unfold core
  simp only [List.append_assoc, List.cons_append]
  have : r' = r + 1 + (r' - r - 1) := by omega
  rw [this]
  exact lex_blanks _ _ r _
/-- a mail that is no greater wishes no less -/
theorem cmp_lt {r p w e r' p' w' e' : Nat} (h : cmpS (mlS r p w e) (mlS r' p' w' e') < 1) : r' ≤ r := by
  rcases Nat.lt_or_ge r r' with q | q
  · exfalso
    have h1 := ml_lt (p := p) (w := w) (e := e) (p' := p') (w' := w') (e' := e') q
    unfold cmpS at h
    rw [decide_eq_true h1, decide_eq_false (List.lt_asymm h1)] at h
    exact absurd h (by decide)
  · exact q
theorem cmp_ge {r p w e r' p' w' e' : Nat} (h : ¬ cmpS (mlS r p w e) (mlS r' p' w' e') < 1) : r ≤ r' := by
  rcases Nat.lt_or_ge r' r with q | q
  · exfalso
    have h1 := ml_lt (p := p') (w := w') (e := e') (p' := p) (w' := w) (e' := e) q
    apply h
    unfold cmpS
    rw [decide_eq_true h1, decide_eq_false (List.lt_asymm h1)]
    decide
  · exact q
theorem tw_mem {α : Type} {p : α → Bool} : ∀ {l : List α} {x : α}, x ∈ l.takeWhile p → p x = true ∧ x ∈ l
  | y :: l, x, h => by
    rw [List.takeWhile_cons] at h
    split at h
    · rename_i hp
      rcases List.mem_cons.mp h with rfl | h
      · exact ⟨hp, .head _⟩
      · exact ⟨(tw_mem h).1, .tail _ (tw_mem h).2⟩
    · cases h
theorem ins_sorted {xs : List Str} {k : Int → Nat} {u : Int} {line : List Int} (hm : ∀ a ∈ u :: line, ∃ p w e, xs.getD a.toNat Str.empty = mlS (k a) p w e)
    (hs : line.Pairwise (fun a b => k b ≤ k a)) : (ins xs line u).Pairwise (fun a b => k b ≤ k a) := by
  obtain ⟨pu, wu, eu, hu⟩ := hm u (.head _)
  unfold ins
  generalize hp : (fun a : Int => decide (cmpS (xs.getD a.toNat Str.empty) (xs.getD u.toNat Str.empty) < 1)) = pr
  have h1 : ∀ a ∈ line, pr a = true → k u ≤ k a := fun a ha h => by
    obtain ⟨pa, wa, ea, hq⟩ := hm a (.tail _ ha)
    rw [← hp] at h
    have := of_decide_eq_true h
    rw [hq, hu] at this
    exact cmp_lt this
  have h2 : ∀ a ∈ line, pr a = false → k a ≤ k u := fun a ha h => by
    obtain ⟨pa, wa, ea, hq⟩ := hm a (.tail _ ha)
    rw [← hp] at h
    have := of_decide_eq_false h
    rw [hq, hu] at this
    exact cmp_ge this
  have hsplit : line.takeWhile pr ++ line.dropWhile pr = line := List.takeWhile_append_dropWhile
  have hs' := hs
  rw [← hsplit] at hs'
  obtain ⟨s1, s2, s3⟩ := List.pairwise_append.mp hs'
  have hd : ∀ b ∈ line.dropWhile pr, k b ≤ k u := by
    intro b hb
    cases e : line.dropWhile pr with
    | nil => rw [e] at hb; cases hb
    | cons y r =>
      have hy : pr y = false := by
        have := List.head_dropWhile_not pr (l := line) (by rw [e]; simp)
        simpa [e] using this
      have hyl : y ∈ line := by rw [← hsplit, e]; simp
      have hyu := h2 y hyl hy
      rw [e] at hb s2
      rcases List.mem_cons.mp hb with rfl | hb
      · exact hyu
      · exact Nat.le_trans ((List.pairwise_cons.mp s2).1 b hb) hyu
  have ht : ∀ a ∈ line.takeWhile pr, k u ≤ k a := fun a ha => h1 a (tw_mem ha).2 (tw_mem ha).1
  refine List.pairwise_append.mpr ⟨s1, List.pairwise_cons.mpr ⟨hd, s2⟩, fun a ha b hb => ?_⟩
  rcases List.mem_cons.mp hb with rfl | hb
  · exact ht a ha
  · exact Nat.le_trans (hd b hb) (ht a ha)
theorem lineN_sorted {xs : List Str} {k : Int → Nat} {g : Int} : ∀ i : Nat, (∀ a : Int, g + 1 ≤ a → a < g + 1 + i → ∃ p w e, xs.getD a.toNat Str.empty = mlS (k a) p w e) → (lineN xs g i).Pairwise (fun a b => k b ≤ k a)
  | 0, _ => .nil
  | i + 1, h => by
    refine ins_sorted (fun a ha => ?_) (lineN_sorted i fun a h1 h2 => h a h1 (by omega))
    rcases List.mem_cons.mp ha with rfl | ha
    · exact h _ (by omega) (by omega)
    · have := lineN_mem ha
      exact h a this.1 (by omega)
/-- the bits of m, and how many are set -/
noncomputable def bitA (v m : Nat) : Bool := ((List.count 0 (List.take v (knL (m : Int))) : Nat) : Int) + (knL (m : Int)).sum == (v : Int)
noncomputable def bitB (v m : Nat) : Bool := (knL ((m + 2 ^ v : Nat) : Int)).sum == (knL (m : Int)).sum + 1
noncomputable def bitC (v m j : Nat) : Bool := ((List.count 0 (List.take v (knL ((m + 2 ^ (v + 1) * j : Nat) : Int))) : Nat) : Int) + (knL (m : Int)).sum == (v : Int) && ((knL ((m + 2 ^ (v + 1) * j : Nat) : Int)).sum == (knL (m : Int)).sum + (knL ((2 ^ (v + 1) * j : Nat) : Int)).sum)
theorem bA : ((List.range 7).all fun v => (List.range (2 ^ v)).all fun m => bitA v m) = true := by decide +kernel
theorem bB : ((List.range 6).all fun v => (List.range (2 ^ v)).all fun m => bitB v m) = true := by decide +kernel
theorem bC : ((List.range 6).all fun v => (List.range (2 ^ v)).all fun m => (List.range (2 ^ (5 - v))).all fun j => bitC v m j) = true := by decide +kernel
theorem bitA_of {v m : Nat} (hv : v ≤ 6) (hm : m < 2 ^ v) : ((List.count 0 (List.take v (knL (m : Int))) : Nat) : Int) + (knL (m : Int)).sum = (v : Int) :=
  eq_of_beq (List.all_eq_true.mp (List.all_eq_true.mp bA v (List.mem_range.mpr (by omega))) m (List.mem_range.mpr hm))
theorem bitB_of {v m : Nat} (hv : v < 6) (hm : m < 2 ^ v) : (knL ((m + 2 ^ v : Nat) : Int)).sum = (knL (m : Int)).sum + 1 :=
  eq_of_beq (List.all_eq_true.mp (List.all_eq_true.mp bB v (List.mem_range.mpr hv)) m (List.mem_range.mpr hm))
theorem bitC_of {v m j : Nat} (hv : v < 6) (hm : m < 2 ^ v) (hj : j < 2 ^ (5 - v)) :
    ((List.count 0 (List.take v (knL ((m + 2 ^ (v + 1) * j : Nat) : Int))) : Nat) : Int) + (knL (m : Int)).sum = (v : Int) ∧ (knL ((m + 2 ^ (v + 1) * j : Nat) : Int)).sum = (knL (m : Int)).sum + (knL ((2 ^ (v + 1) * j : Nat) : Int)).sum := by
  have := List.all_eq_true.mp (List.all_eq_true.mp (List.all_eq_true.mp bC v (List.mem_range.mpr hv)) m (List.mem_range.mpr hm)) j (List.mem_range.mpr hj)
  unfold bitC at this
  rw [Bool.and_eq_true] at this
  exact ⟨eq_of_beq this.1, eq_of_beq this.2⟩
/-- a set of places, as bools -/
noncomputable def pick (b0 b1 b2 b3 b4 b5 : Bool) : List Nat := (if b0 then [0] else []) ++ (if b1 then [1] else []) ++ (if b2 then [2] else []) ++ (if b3 then [3] else []) ++ (if b4 then [4] else []) ++ (if b5 then [5] else [])
noncomputable def pSum (l : List Nat) : Nat := (l.map (2 ^ ·)).sum
noncomputable def bitD (b0 b1 b2 b3 b4 b5 : Bool) : Bool := (knL ((pSum (pick b0 b1 b2 b3 b4 b5) : Nat) : Int)).sum == ((pick b0 b1 b2 b3 b4 b5).length : Int) && Nat.blt (pSum (pick b0 b1 b2 b3 b4 b5)) 64 &&
  (List.range 6).all fun v => (pick b0 b1 b2 b3 b4 b5).any (fun k => Nat.ble k v) || pSum (pick b0 b1 b2 b3 b4 b5) % 2 ^ (v + 1) == 0
theorem bD : ∀ b0 b1 b2 b3 b4 b5 : Bool, bitD b0 b1 b2 b3 b4 b5 = true := by decide +kernel
theorem pick_filter (P : Nat → Bool) : (List.range 6).filter P = pick (P 0) (P 1) (P 2) (P 3) (P 4) (P 5) := by
  show [0, 1, 2, 3, 4, 5].filter P = _
  unfold pick
  simp only [List.filter_cons, List.filter_nil]
  cases P 0 <;> cases P 1 <;> cases P 2 <;> cases P 3 <;> cases P 4 <;> cases P 5 <;> rfl
theorem pSum_perm {a b : List Nat} (h : a.Perm b) : pSum a = pSum b := (h.map _).sum_nat
theorem bitD_of {l : List Nat} {v : Nat} (hn : l.Nodup) (hv : v < 6) (hl : ∀ k ∈ l, v < k ∧ k < 6) :
    (knL ((pSum l : Nat) : Int)).sum = (l.length : Int) ∧ pSum l < 64 ∧ ∃ j, j < 2 ^ (5 - v) ∧ pSum l = 2 ^ (v + 1) * j := by
  have hp : l.Perm (pick (decide (0 ∈ l)) (decide (1 ∈ l)) (decide (2 ∈ l)) (decide (3 ∈ l)) (decide (4 ∈ l)) (decide (5 ∈ l))) := by
    rw [← pick_filter fun k => decide (k ∈ l)]
    refine (List.perm_ext_iff_of_nodup hn (List.nodup_range.filter _)).mpr fun a => ?_
    rw [List.mem_filter, List.mem_range, decide_eq_true_eq]
    exact ⟨fun h => ⟨(hl a h).2, h⟩, fun h => h.2⟩
  have h := bD (decide (0 ∈ l)) (decide (1 ∈ l)) (decide (2 ∈ l)) (decide (3 ∈ l)) (decide (4 ∈ l)) (decide (5 ∈ l))
  unfold bitD at h
  generalize pick (decide (0 ∈ l)) (decide (1 ∈ l)) (decide (2 ∈ l)) (decide (3 ∈ l)) (decide (4 ∈ l)) (decide (5 ∈ l)) = q at hp h
  rw [Bool.and_eq_true, Bool.and_eq_true] at h
  obtain ⟨⟨h1, h2⟩, h3⟩ := h
  rw [pSum_perm hp, hp.length_eq]
  have h64 : pSum q < 64 := Nat.le_of_ble_eq_true h2
  refine ⟨eq_of_beq h1, h64, ?_⟩
  have h4 := List.all_eq_true.mp h3 v (List.mem_range.mpr hv)
  rw [Bool.or_eq_true] at h4
  have h5 : pSum q % 2 ^ (v + 1) = 0 := by
    rcases h4 with h4 | h4
    · obtain ⟨k, hk, hkv⟩ := List.any_eq_true.mp h4
      have := (hl k (hp.mem_iff.mpr hk)).1
      have := Nat.le_of_ble_eq_true hkv
      omega
    · exact eq_of_beq h4
  refine ⟨pSum q / 2 ^ (v + 1), ?_, (Nat.mul_div_cancel' (Nat.dvd_of_mod_eq_zero h5)).symm⟩
  rw [Nat.div_lt_iff_lt_mul (Nat.two_pow_pos _), ← Nat.pow_add]
  have : 5 - v + (v + 1) = 6 := by omega
  rw [this]
  exact h64
end Mine
end
section
open PySem PySem.W PyProof.Rows
set_option maxRecDepth 100000
set_option maxHeartbeats 8000000
namespace Mine
theorem mul_sp : ∀ k : Nat, k < 9 → (Txt.mul (Str.ofString " ") (k : Int)).cps.toList = List.replicate k 32 := by decide +kernel
theorem mul_dot : ∀ k : Nat, k < 9 → (Txt.mul (Str.ofString ".") (k : Int)).cps.toList = List.replicate k 46 := by decide +kernel
theorem app_list (x y : Str) : (x ++ y).cps.toList = x.cps.toList ++ y.cps.toList := by
  show (x.cps ++ y.cps).toList = _
  simp
theorem mail_list {w e k q : Nat} {b sv : Int} (hk : (knL b).sum = (k : Int)) (hq : List.count 0 (List.take sv.toNat (knL b)) = q) (hkw : k ≤ w) (hw : w ≤ 5) (hq6 : q ≤ 6) (he : e < 3) :
    (mailF (w : Int) (edS e) b sv).cps.toList = List.replicate (w - k) 32 ++ core q e := by
  unfold mailF
  rw [hk, hq, app_list, app_list, app_list]
  have e1 : (w : Int) - (k : Int) = ((w - k : Nat) : Int) := by omega
  have e2 : (1 : Int) + (q : Int) = ((q + 1 : Nat) : Int) := by omega
  rw [e1, e2, mul_sp _ (by omega), mul_dot _ (by omega)]
  unfold core
  have e3 : (if ((q : Nat) : Int) = 0 then edS e else Str.ofString "\x0d\n").cps.toList = edL q e := by
    unfold edL edS
    by_cases h : q = 0
    · subst h
      have : e = 0 ∨ e = 1 ∨ e = 2 := by omega
      rcases this with rfl | rfl | rfl <;> decide
    · rw [if_neg (by omega), if_neg h]; decide
  rw [e3]
  have e4 : (Str.ofString "K").cps.toList = [75] := by decide
  rw [e4]
  simp
theorem mail_eq {w e k q t : Nat} {b sv : Int} (hk : (knL b).sum = (k : Int)) (hq : List.count 0 (List.take sv.toNat (knL b)) = q) (hkw : k ≤ w) (hw : w ≤ 5) (hq6 : q ≤ 6) (he : e < 3) (ht : t ≤ 6) :
    mlS (w - k) q t e = mailF (w : Int) (edS e) b sv ++ Txt.mul (Str.ofString " ") (t : Int) := by
  apply str_eq
  rw [app_list, mail_list hk hq hkw hw hq6 he, mul_sp _ (by omega), ml_list]
theorem mail_len {w e k q : Nat} {b sv : Int} (hk : (knL b).sum = (k : Int)) (hq : List.count 0 (List.take sv.toNat (knL b)) = q) (hkw : k ≤ w) (hw : w ≤ 5) (hq6 : q ≤ 6) (he : e < 3) :
    (mailF (w : Int) (edS e) b sv).length ≤ 100 := by
  rw [len_list, mail_list hk hq hkw hw hq6 he]
  have := core_len q e
  simp only [List.length_append, List.length_replicate]
  omega
theorem foldl_filter (P : Int → Prop) [DecidablePred P] : ∀ (l acc : List Int), l.foldl (fun a u => if P u then a ++ [u] else a) acc = acc ++ l.filter (fun u => decide (P u))
  | [], acc => by simp
  | u :: l, acc => by
    rw [List.foldl_cons, foldl_filter P l, List.filter_cons]
    by_cases h : P u <;> simp [h]
/-- the state ahead of the guest v -/
structure St (n v : Nat) (ws : List Int) (es xs : List Str) (fs : List Int) (can : Bool) (r p ei : Nat → Nat) : Prop where
  hn : n = 5 ∨ n = 6
  lw : ws.length = n
  le : es.length = n
  lx : xs.length = n
  lf : fs.length = n
  wb : ∀ u, u < n → 0 ≤ ws.getD u 0 ∧ ws.getD u 0 ≤ 5
  eb : ∀ u, u < n → ei u < 3 ∧ es.getD u Str.empty = edS (ei u)
  hi : ∀ u, v ≤ u → u < n → r u ≤ (ws.getD u 0).toNat ∧ p u + ((ws.getD u 0).toNat - r u) = v ∧ xs.getD u Str.empty = mlS (r u) (p u) (ws.getD u 0).toNat (ei u) ∧
    ∃ m : Nat, fs.getD u 0 = (m : Int) ∧ m < 2 ^ v ∧ (knL (m : Int)).sum = (((ws.getD u 0).toNat - r u : Nat) : Int)
  lo : ∀ u, u < v → u < n → (xs.getD u Str.empty).length ≤ 100 ∧ 0 ≤ fs.getD u 0 ∧ fs.getD u 0 < 64
  g : grS ((List.range' v (n - v)).map r) = can
/-- the line behind the guest v -/
noncomputable def lineOf (xs : List Str) (v : Nat) : List Int := lineN xs (v : Int) ((xs.length : Int) - ((v : Int) + 1)).toNat
section
variable {n v : Nat} {ws : List Int} {es xs : List Str} {fs : List Int} {can : Bool} {r p ei : Nat → Nat}
theorem St.find (S : St n v ws es xs fs can r p ei) {u : Nat} (h1 : v ≤ u) (h2 : u < n) :
    Txt.find (xs.getD u Str.empty) (Str.ofString "K") = (r u : Int) ∧ (Builtin.Str.occurrences (xs.getD u Str.empty) (Str.ofString "K") 0 (xs.getD u Str.empty).length 1).isEmpty = false := by
  obtain ⟨a1, a2, a3, _⟩ := S.hi u h1 h2
  have hw := S.wb u h2
  have := S.hn
  rw [a3]
  exact ml_find (by omega) a1 (S.eb u h2).1 (by omega)
theorem St.line_perm (S : St n v ws es xs fs can r p ei) : (lineOf xs v).Perm ((List.range' (v + 1) (n - (v + 1))).map fun j : Nat => (j : Int)) := by
  unfold lineOf
  refine (lineN_perm _ _ _).trans (.of_eq ?_)
  have e : ((xs.length : Int) - ((v : Int) + 1)).toNat = n - (v + 1) := by have := S.lx; omega
  rw [e, List.range'_eq_map_range, List.map_map]
  refine List.map_congr_left fun j _ => ?_
  show (v : Int) + 1 + (j : Int) = ((v + 1 + j : Nat) : Int)
  omega
theorem St.line_mem (S : St n v ws es xs fs can r p ei) {a : Int} (h : a ∈ lineOf xs v) : ∃ u : Nat, a = (u : Int) ∧ v + 1 ≤ u ∧ u < n := by
  have := S.line_perm.mem_iff.mp h
  obtain ⟨j, hj, rfl⟩ := List.mem_map.mp this
  have := List.mem_range'.mp hj
  obtain ⟨i, h1, h2⟩ := this
  exact ⟨j, rfl, by omega, by omega⟩
theorem St.line_len (S : St n v ws es xs fs can r p ei) : (lineOf xs v).length = n - (v + 1) := by
  rw [S.line_perm.length_eq]; simp
theorem St.line_nodup (S : St n v ws es xs fs can r p ei) : (lineOf xs v).Nodup := by
  rw [S.line_perm.nodup_iff]
  refine List.Pairwise.map _ (fun a b h q => h (by omega)) (List.nodup_range' (s := v + 1) (n := n - (v + 1)))
theorem St.line_sorted (S : St n v ws es xs fs can r p ei) (hv : v < n) : (lineOf xs v).Pairwise (fun a b => r b.toNat ≤ r a.toNat) := by
  unfold lineOf
  refine lineN_sorted (k := fun a => r a.toNat) _ fun a h1 h2 => ?_
  have := S.lx
  obtain ⟨_, _, a3, _⟩ := S.hi a.toNat (by omega) (by omega)
  exact ⟨_, _, _, a3⟩
theorem St.grLine (S : St n v ws es xs fs can r p ei) (hv : v < n) : grS (r v :: (lineOf xs v).map fun a => r a.toNat) = can := by
  rw [← S.g]
  refine grS_perm ?_
  have e : n - v = (n - (v + 1)) + 1 := by omega
  rw [e, List.range'_succ, List.map_cons]
  refine List.Perm.cons _ ?_
  refine (S.line_perm.map _).trans (.of_eq ?_)
  rw [List.map_map]
  refine List.map_congr_left fun j _ => ?_
  simp
theorem St.wle (S : St n v ws es xs fs can r p ei) {u : Nat} (h2 : u < n) : (ws.getD u 0).toNat ≤ 5 := by
  have := S.wb u h2; omega
theorem St.no (S : St n v ws es xs fs can r p ei) (hv : v < n) (h : (lineOf xs v).length < r v ∨ ∃ a ∈ (lineOf xs v).take (r v), r a.toNat = 0) : can = false := by
  rw [← S.grLine hv]
  have hn := S.hn
  have ll := S.line_len
  obtain ⟨a1, _⟩ := S.hi v (Nat.le_refl _) hv
  refine step_no (by have := S.wle hv; omega) (by rw [List.length_map]; omega) (fun x hx => ?_) (List.pairwise_map.mpr (S.line_sorted hv)) ?_
  · obtain ⟨a, ha, rfl⟩ := List.mem_map.mp hx
    obtain ⟨u, rfl, h1, h2⟩ := S.line_mem ha
    have := (S.hi u (by omega) h2).1
    have := S.wle h2
    show r (Int.toNat (u : Int)) ≤ 5
    rw [Int.toNat_natCast]
    omega
  · rcases h with h | ⟨a, ha, h0⟩
    · exact .inl (by rwa [List.length_map])
    · refine .inr ⟨r a.toNat, ?_, h0⟩
      rw [← List.map_take]
      exact List.mem_map_of_mem ha
end
end Mine
end
section
open PySem PySem.W PyProof.Rows
set_option maxRecDepth 100000
set_option maxHeartbeats 8000000
namespace Mine
/-- those whom the guest v takes -/
noncomputable def takenOf (xs : List Str) (v c : Nat) : List Int := (lineOf xs v).take c
/-- the mail of u behind the guest v -/
noncomputable def zf (ws : List Int) (xs : List Str) (r p ei : Nat → Nat) (v u : Nat) : Str :=
  if u = v then mlS 0 (p v) (r v) (ei v)
  else if (u : Int) ∈ takenOf xs v (r v) then (if 0 < r u then mlS (r u - 1) (p u) (ws.getD u 0).toNat (ei u) else mlS 0 (p u) ((ws.getD u 0).toNat - 1) (ei u))
  else if v < u then mlS (r u) (p u + 1) (ws.getD u 0).toNat (ei u)
  else xs.getD u Str.empty
noncomputable def zsOf (n : Nat) (ws : List Int) (xs : List Str) (r p ei : Nat → Nat) (v : Nat) : List Str := (List.range n).map (zf ws xs r p ei v)
noncomputable def rN (xs : List Str) (r : Nat → Nat) (v u : Nat) : Nat := if (u : Int) ∈ takenOf xs v (r v) then r u - 1 else r u
noncomputable def pN (xs : List Str) (r p : Nat → Nat) (v u : Nat) : Nat := if (u : Int) ∈ takenOf xs v (r v) then p u else p u + 1
noncomputable def miOf (xs : List Str) (v c : Nat) : Int := ((takenOf xs v c).map fun k => (2 : Int) ^ k.toNat).sum
noncomputable def fsOf (n : Nat) (xs : List Str) (fs : List Int) (v c : Nat) : List Int :=
  (rangeKs 0 ((n : Int) - 0).toNat).map fun u => fs.getD u.toNat 0 + (if ((takenOf xs v c).any fun x => x == u) = true then (2 : Int) ^ (v : Int).toNat else if u = (v : Int) then miOf xs v c else 0)
theorem getD_map_range {α : Type} (f : Nat → α) (d : α) {n k : Nat} (h : k < n) : ((List.range n).map f).getD k d = f k := by
  rw [List.getD_eq_getElem?_getD, List.getElem?_map, List.getElem?_range h]; rfl
theorem any_mem {l : List Int} {u : Int} : (l.any fun x => x == u) = true ↔ u ∈ l := by
  rw [List.any_eq_true]
  exact ⟨fun ⟨x, hx, e⟩ => eq_of_beq e ▸ hx, fun h => ⟨u, h, beq_self_eq_true u⟩⟩
theorem any_not {l : List Int} {u : Int} : (l.any fun x => x == u) = false ↔ ¬ u ∈ l := by
  rw [← any_mem, Bool.not_eq_true]
theorem zs_get {n : Nat} {ws : List Int} {xs : List Str} {r p ei : Nat → Nat} {v u : Nat} (h : u < n) : (zsOf n ws xs r p ei v).getD u Str.empty = zf ws xs r p ei v u := getD_map_range _ _ h
theorem zs_len {n : Nat} {ws : List Int} {xs : List Str} {r p ei : Nat → Nat} {v : Nat} : (zsOf n ws xs r p ei v).length = n := by simp [zsOf]
theorem fs_len {n : Nat} {xs : List Str} {fs : List Int} {v c : Nat} : (fsOf n xs fs v c).length = n := by
  unfold fsOf
  rw [List.length_map, rangeKs_length]; omega
theorem fs_get {n : Nat} {xs : List Str} {fs : List Int} {v c u : Nat} (h : u < n) : (fsOf n xs fs v c).getD u 0 = fs.getD u 0 + (if (u : Int) ∈ takenOf xs v c then (2 : Int) ^ v else if u = v then miOf xs v c else 0) := by
  unfold fsOf rangeKs
  rw [List.map_map]
  have e : ((n : Int) - 0).toNat = n := by omega
  rw [e, getD_map_range _ _ h]
  have e2 : (0 : Int) + (u : Int) = (u : Int) := by omega
  simp only [Function.comp_apply, e2, Int.toNat_natCast]
  congr 1
  by_cases hm : (u : Int) ∈ takenOf xs v c
  · rw [if_pos (any_mem.mpr hm), if_pos hm]
  · rw [if_neg (by rw [any_mem]; exact hm), if_neg hm]
    by_cases hu : u = v
    · rw [if_pos (by rw [hu]), if_pos hu]
    · rw [if_neg (by omega), if_neg hu]
section
variable {n v : Nat} {ws : List Int} {es xs : List Str} {fs : List Int} {can : Bool} {r p ei : Nat → Nat}
theorem St.tk_mem (S : St n v ws es xs fs can r p ei) {c : Nat} {a : Int} (h : a ∈ takenOf xs v c) : ∃ u : Nat, a = (u : Int) ∧ v + 1 ≤ u ∧ u < n := S.line_mem (List.mem_of_mem_take h)
theorem St.tk_len (S : St n v ws es xs fs can r p ei) {c : Nat} (h : c ≤ (lineOf xs v).length) : (takenOf xs v c).length = c := by
  unfold takenOf
  rw [List.length_take]; omega
theorem St.tk_nodup (S : St n v ws es xs fs can r p ei) {c : Nat} : (takenOf xs v c).Nodup := S.line_nodup.sublist (List.take_sublist _ _)
theorem St.v_not (S : St n v ws es xs fs can r p ei) {c : Nat} {u : Nat} (h : u ≤ v) : ¬ (u : Int) ∈ takenOf xs v c := fun hm => by
  obtain ⟨w, e, h1, _⟩ := S.tk_mem hm
  omega
theorem St.mi (S : St n v ws es xs fs can r p ei) (hv : v < n) {c : Nat} : ∃ j : Nat, miOf xs v c = ((2 ^ (v + 1) * j : Nat) : Int) ∧ j < 2 ^ (5 - v) ∧ (knL ((2 ^ (v + 1) * j : Nat) : Int)).sum = ((takenOf xs v c).length : Int) ∧ 2 ^ (v + 1) * j < 64 := by
  have hn := S.hn
  have e : miOf xs v c = ((pSum ((takenOf xs v c).map Int.toNat) : Nat) : Int) := by
    unfold miOf pSum
    rw [← sum_cast, List.map_map, List.map_map]
    congr 1
  obtain ⟨h1, h2, j, h3, h4⟩ := bitD_of (l := (takenOf xs v c).map Int.toNat) (v := v) (by
    refine List.Pairwise.map _ (R := fun a b => a ≠ b ∧ 0 ≤ a ∧ 0 ≤ b) (fun a b h q => h.1 (by omega)) ?_
    exact (List.Pairwise.and_mem.mp S.tk_nodup).imp fun {a b} h => by
      obtain ⟨u, e1, _⟩ := S.tk_mem h.1
      obtain ⟨u', e2, _⟩ := S.tk_mem h.2.1
      exact ⟨h.2.2, by omega, by omega⟩) (by omega) (fun k hk => by
    obtain ⟨a, ha, rfl⟩ := List.mem_map.mp hk
    obtain ⟨u, rfl, h1, h2⟩ := S.tk_mem ha
    rw [Int.toNat_natCast]
    omega)
  refine ⟨j, by rw [e, h4], h3, ?_, by rw [← h4]; exact h2⟩
  rw [← h4, h1, List.length_map]
theorem St.f_v (S : St n v ws es xs fs can r p ei) (hv : v < n) {c : Nat} (hc : c ≤ (lineOf xs v).length) : ∃ M : Nat, (fsOf n xs fs v c).getD v 0 = (M : Int) ∧ M < 64 ∧
    (List.count 0 (List.take v (knL (M : Int)))) = p v ∧ (knL (M : Int)).sum = (((ws.getD v 0).toNat - r v + c : Nat) : Int) := by
  have hn := S.hn
  obtain ⟨a1, a2, a3, m, a4, a5, a6⟩ := S.hi v (Nat.le_refl _) hv
  obtain ⟨j, b1, b2, b3, b4⟩ := S.mi hv (c := c)
  have ev : (fsOf n xs fs v c).getD v 0 = ((m + 2 ^ (v + 1) * j : Nat) : Int) := by
    rw [fs_get hv, if_neg (S.v_not (Nat.le_refl _)), if_pos rfl, a4, b1]; omega
  have hM : m + 2 ^ (v + 1) * j < 64 := by
    have h1 : 2 ^ (v + 1) * (j + 1) ≤ 2 ^ (v + 1) * 2 ^ (5 - v) := Nat.mul_le_mul_left _ b2
    rw [← Nat.pow_add, show v + 1 + (5 - v) = 6 by omega, Nat.mul_add, Nat.mul_one] at h1
    have h2 : 2 ^ v ≤ 2 ^ (v + 1) := Nat.pow_le_pow_right (by decide) (by omega)
    omega
  obtain ⟨c1, c2⟩ := bitC_of (v := v) (m := m) (j := j) (by omega) a5 b2
  refine ⟨_, ev, hM, ?_, ?_⟩
  · rw [a6] at c1
    omega
  · rw [c2, a6, b3, S.tk_len hc]
    omega
theorem St.f_hi (S : St n v ws es xs fs can r p ei) (hv : v < n) {u : Nat} (h1 : v + 1 ≤ u) (h2 : u < n) (hr : (u : Int) ∈ takenOf xs v (r v) → 0 < r u) : ∃ m : Nat, (fsOf n xs fs v (r v)).getD u 0 = (m : Int) ∧ m < 2 ^ (v + 1) ∧
    (knL (m : Int)).sum = (((ws.getD u 0).toNat - rN xs r v u : Nat) : Int) := by
  have hn := S.hn
  obtain ⟨a1, a2, a3, m, a4, a5, a6⟩ := S.hi u (by omega) h2
  have hp : 2 ^ (v + 1) = 2 ^ v + 2 ^ v := by rw [Nat.pow_succ]; omega
  rw [fs_get h2]
  unfold rN
  by_cases hm : (u : Int) ∈ takenOf xs v (r v)
  · have h0 := hr hm
    refine ⟨m + 2 ^ v, by rw [if_pos hm, a4, Int.natCast_add, Int.natCast_pow]; rfl, by omega, ?_⟩
    rw [if_pos hm, bitB_of (by omega) a5, a6]
    omega
  · refine ⟨m, by rw [if_neg hm, if_neg (by omega), a4]; omega, by omega, ?_⟩
    rw [if_neg hm, a6]
theorem St.next (S : St n v ws es xs fs can r p ei) (hv : v < n) (hc : r v ≤ (lineOf xs v).length) (hr : ∀ a ∈ takenOf xs v (r v), 0 < r a.toNat) :
    St n (v + 1) ws es (zsOf n ws xs r p ei v) (fsOf n xs fs v (r v)) can (rN xs r v) (pN xs r p v) ei where
  hn := S.hn
  lw := S.lw
  le := S.le
  lx := zs_len
  lf := fs_len
  wb := S.wb
  eb := S.eb
  hi := fun u h1 h2 => by
    obtain ⟨a1, a2, a3, _⟩ := S.hi u (by omega) h2
    have hr' : (u : Int) ∈ takenOf xs v (r v) → 0 < r u := fun hm => by
      have := hr _ hm
      rwa [Int.toNat_natCast] at this
    obtain ⟨m, b1, b2, b3⟩ := S.f_hi hv h1 h2 hr'
    rw [zs_get h2]
    unfold zf
    rw [if_neg (by omega)]
    refine ⟨?_, ?_, ?_, m, b1, b2, b3⟩
    · unfold rN; split <;> omega
    · unfold rN pN
      split
      · rename_i hm
        have := hr' hm
        omega
      · omega
    · unfold rN pN
      by_cases hm : (u : Int) ∈ takenOf xs v (r v)
      · rw [if_pos hm, if_pos hm, if_pos hm, if_pos (hr' hm)]
      · rw [if_neg hm, if_neg hm, if_neg hm, if_pos (by omega)]
  lo := fun u h1 h2 => by
    have hn := S.hn
    rcases Nat.lt_or_ge u v with h | h
    · obtain ⟨a1, a2, a3⟩ := S.lo u h h2
      rw [zs_get h2, fs_get h2, if_neg (S.v_not (by omega)), if_neg (by omega)]
      unfold zf
      rw [if_neg (by omega), if_neg (S.v_not (by omega)), if_neg (by omega)]
      exact ⟨a1, by omega, by omega⟩
    · have e : u = v := by omega
      subst e
      obtain ⟨M, b1, b2, _⟩ := S.f_v hv hc
      obtain ⟨a1, a2, _⟩ := S.hi u (Nat.le_refl _) hv
      have := S.wle hv
      rw [zs_get h2, b1]
      unfold zf
      rw [if_pos rfl]
      have := ml_len 0 (p u) (r u) (ei u)
      exact ⟨by omega, by omega, by omega⟩
  g := by
    have hn := S.hn
    have ll := S.line_len
    obtain ⟨a1, _⟩ := S.hi v (Nat.le_refl _) hv
    have hg := S.grLine hv
    rw [step_go (by have := S.wle hv; omega) (by rw [List.length_map]; omega) (fun x hx => ?_) (List.pairwise_map.mpr (S.line_sorted hv)) (by rwa [List.length_map]) (fun x hx => ?_)] at hg
    · rw [← hg]
      refine grS_perm ?_
      have e1 : (List.range' (v + 1) (n - (v + 1))).map (rN xs r v) = ((List.range' (v + 1) (n - (v + 1))).map fun j : Nat => (j : Int)).map fun a => rN xs r v a.toNat := by
        rw [List.map_map]
        refine List.map_congr_left fun j _ => ?_
        show rN xs r v j = rN xs r v (Int.toNat (j : Int))
        rw [Int.toNat_natCast]
      rw [e1]
      refine (S.line_perm.symm.map _).trans (.of_eq ?_)
      rw [← List.map_take, ← List.map_drop, List.map_map]
      conv => lhs; rw [← List.take_append_drop (r v) (lineOf xs v)]
      rw [List.map_append]
      have hcast : ∀ a ∈ lineOf xs v, ((a.toNat : Nat) : Int) = a := fun a ha => by
        obtain ⟨u, rfl, _⟩ := S.line_mem ha
        rw [Int.toNat_natCast]
      congr 1
      · refine List.map_congr_left fun a ha => ?_
        show rN xs r v a.toNat = Nat.pred (r a.toNat)
        unfold rN
        rw [if_pos (by rw [hcast a (List.mem_of_mem_take ha)]; exact ha)]
        rfl
      · refine List.map_congr_left fun a ha => ?_
        unfold rN
        rw [if_neg]
        rw [hcast a (List.mem_of_mem_drop ha)]
        intro ht
        have hd := S.line_nodup
        rw [← List.take_append_drop (r v) (lineOf xs v)] at hd
        exact (List.nodup_append.mp hd).2.2 a ht a ha rfl
    · obtain ⟨a, ha, rfl⟩ := List.mem_map.mp hx
      obtain ⟨u, rfl, h1, h2⟩ := S.line_mem ha
      have := (S.hi u (by omega) h2).1
      have := S.wle h2
      show r (Int.toNat (u : Int)) ≤ 5
      rw [Int.toNat_natCast]
      omega
    · rw [← List.map_take] at hx
      obtain ⟨a, ha, rfl⟩ := List.mem_map.mp hx
      exact hr a ha
end
end Mine
end
section
open PySem PySem.W PyProof.Rows
set_option maxRecDepth 100000
set_option maxHeartbeats 8000000
namespace Mine
/-- those taken that have no blank ahead -/
noncomputable def gsOf (xs : List Str) (v c : Nat) : List Int := (takenOf xs v c).foldl (fun l u => if Txt.find (xs.getD u.toNat Str.empty) (Str.ofString "K") = 0 then l ++ [u] else l) []
section
variable {n v : Nat} {ws : List Int} {es xs : List Str} {fs : List Int} {can : Bool} {r p ei : Nat → Nat}
theorem St.gs_mem (S : St n v ws es xs fs can r p ei) {c : Nat} {a : Int} : a ∈ gsOf xs v c ↔ a ∈ takenOf xs v c ∧ r a.toNat = 0 := by
  unfold gsOf
  rw [foldl_filter (fun u => Txt.find (xs.getD u.toNat Str.empty) (Str.ofString "K") = 0), List.nil_append, List.mem_filter, decide_eq_true_eq]
  constructor
  · rintro ⟨h1, h2⟩
    obtain ⟨u, rfl, h3, h4⟩ := S.tk_mem h1
    rw [Int.toNat_natCast] at h2 ⊢
    rw [(S.find (by omega) h4).1] at h2
    exact ⟨h1, by omega⟩
  · rintro ⟨h1, h2⟩
    obtain ⟨u, rfl, h3, h4⟩ := S.tk_mem h1
    rw [Int.toNat_natCast] at h2 ⊢
    rw [(S.find (by omega) h4).1]
    exact ⟨h1, by omega⟩
theorem St.gs_nil (S : St n v ws es xs fs can r p ei) {c : Nat} (h : gsOf xs v c = []) : ∀ a ∈ takenOf xs v c, 0 < r a.toNat := fun a ha => by
  rcases Nat.eq_zero_or_pos (r a.toNat) with q | q
  · have := S.gs_mem.mpr ⟨ha, q⟩
    rw [h] at this
    cases this
  · exact q
theorem St.fails (S : St n v ws es xs fs can r p ei) (hv : v < n) (h : gsOf xs v (r v) ≠ [] ∨ ((lineOf xs v).length : Int) < (r v : Int)) : can = false := by
  refine S.no hv ?_
  rcases h with h | h
  · obtain ⟨a, ha⟩ := List.exists_mem_of_ne_nil _ h
    have := S.gs_mem.mp ha
    exact .inr ⟨a, this.1, this.2⟩
  · exact .inl (by omega)
theorem St.gs_len (S : St n v ws es xs fs can r p ei) {c : Nat} : (gsOf xs v c).length ≤ 6 := by
  unfold gsOf
  rw [foldl_filter (fun u => Txt.find (xs.getD u.toNat Str.empty) (Str.ofString "K") = 0), List.nil_append]
  refine Nat.le_trans (List.length_filter_le _ _) ?_
  unfold takenOf
  rw [List.length_take, S.line_len]
  have := S.hn
  omega
theorem St.x_len (S : St n v ws es xs fs can r p ei) {u : Nat} (h1 : v ≤ u) (h2 : u < n) : (xs.getD u Str.empty).length ≤ 100 := by
  obtain ⟨a1, a2, a3, _⟩ := S.hi u h1 h2
  have := S.wle h2
  have hn := S.hn
  rw [a3]
  have := ml_len (r u) (p u) (ws.getD u 0).toNat (ei u)
  omega
/-- for the loop that fills «after» -/
theorem St.for0 (S : St n v ws es xs fs can r p ei) (hv : v < n) : ∃ l c q, Pad (xs.getD (v : Int).toNat Str.empty) l c q ∧ (xs.getD (v : Int).toNat Str.empty).length ≤ 100 ∧ 0 ≤ ws.getD (v : Int).toNat 0 ∧
    ((zsOf n ws xs r p ei v).getD (v : Int).toNat Str.empty).cps.toList = List.replicate (l - min l (ws.getD (v : Int).toNat 0).toNat) 32 ++ c ++ List.replicate (q - min q ((ws.getD (v : Int).toNat 0).toNat - min l (ws.getD (v : Int).toNat 0).toNat)) 32 := by
  rw [Int.toNat_natCast]
  obtain ⟨a1, a2, a3, _⟩ := S.hi v (Nat.le_refl _) hv
  refine ⟨r v, core (p v) (ei v), (ws.getD v 0).toNat, by rw [a3]; exact ml_pad _ _ _ _, S.x_len (Nat.le_refl _) hv, (S.wb v hv).1, ?_⟩
  rw [zs_get hv]
  unfold zf
  rw [if_pos rfl, ml_list]
  have e1 : r v - min (r v) (ws.getD v 0).toNat = 0 := by omega
  have e2 : (ws.getD v 0).toNat - min (ws.getD v 0).toNat ((ws.getD v 0).toNat - min (r v) (ws.getD v 0).toNat) = r v := by omega
  rw [e1, e2]
theorem St.for1 (S : St n v ws es xs fs can r p ei) (hv : v < n) : ∀ u : Int, 0 ≤ u → u < (n : Int) → u ≠ (v : Int) → ((takenOf xs v (r v)).any fun x => x == u) = true → ∃ l c q, Pad (xs.getD u.toNat Str.empty) l c q ∧ (xs.getD u.toNat Str.empty).length ≤ 100 ∧
    ((zsOf n ws xs r p ei v).getD u.toNat Str.empty).cps.toList = List.replicate (l - min l (1 : Int).toNat) 32 ++ c ++ List.replicate (q - min q ((1 : Int).toNat - min l (1 : Int).toNat)) 32 := by
  intro u _ _ _ hm
  have hm := any_mem.mp hm
  obtain ⟨k, rfl, h1, h2⟩ := S.tk_mem hm
  rw [Int.toNat_natCast]
  obtain ⟨a1, a2, a3, _⟩ := S.hi k (by omega) h2
  refine ⟨r k, core (p k) (ei k), (ws.getD k 0).toNat, by rw [a3]; exact ml_pad _ _ _ _, S.x_len (by omega) h2, ?_⟩
  rw [zs_get h2]
  unfold zf
  rw [if_neg (by omega), if_pos hm]
  have e0 : (1 : Int).toNat = 1 := rfl
  rw [e0]
  by_cases h0 : 0 < r k
  · rw [if_pos h0, ml_list]
    have e1 : r k - min (r k) 1 = r k - 1 := by omega
    have e2 : (ws.getD k 0).toNat - min (ws.getD k 0).toNat (1 - min (r k) 1) = (ws.getD k 0).toNat := by omega
    rw [e1, e2]
  · rw [if_neg h0, ml_list]
    have e1 : r k - min (r k) 1 = 0 := by omega
    have e2 : (ws.getD k 0).toNat - min (ws.getD k 0).toNat (1 - min (r k) 1) = (ws.getD k 0).toNat - 1 := by omega
    rw [e1, e2]
theorem St.for2 (S : St n v ws es xs fs can r p ei) (hv : v < n) : ∀ u : Int, 0 ≤ u → u < (n : Int) → (v : Int) < u → ((takenOf xs v (r v)).any fun x => x == u) = false → (xs.getD u.toNat Str.empty).length ≤ 1000 ∧ (∀ y, subP codeB (Str.ofString "\x0d\n") (xs.getD u.toNat Str.empty) = some y → y.length ≤ 1000) ∧
    quoteP (xs.getD u.toNat Str.empty) = some ((zsOf n ws xs r p ei v).getD u.toNat Str.empty) := by
  intro u h0 h1 h2 hm
  obtain ⟨k, rfl⟩ : ∃ k : Nat, u = (k : Int) := ⟨u.toNat, by omega⟩
  have hm := any_not.mp hm
  rw [Int.toNat_natCast]
  have hk : k < n := by omega
  obtain ⟨a1, a2, a3, _⟩ := S.hi k (by omega) hk
  have hx := S.x_len (u := k) (by omega) hk
  have hn := S.hn
  obtain ⟨q1, q2⟩ := ml_quote (S.wle hk) a1 (S.eb k hk).1 (p := p k) (by omega)
  rw [← a3] at q1 q2
  refine ⟨by omega, q2, ?_⟩
  rw [q1, zs_get hk]
  unfold zf
  rw [if_neg (by omega), if_neg hm, if_pos (by omega)]
theorem St.for3 (S : St n v ws es xs fs can r p ei) (hv : v < n) : ∀ u : Int, 0 ≤ u → u < (v : Int) → ((takenOf xs v (r v)).any fun x => x == u) = false → (zsOf n ws xs r p ei v).getD u.toNat Str.empty = xs.getD u.toNat Str.empty := by
  intro u h0 h1 hm
  obtain ⟨k, rfl⟩ : ∃ k : Nat, u = (k : Int) := ⟨u.toNat, by omega⟩
  have hm := any_not.mp hm
  rw [Int.toNat_natCast, zs_get (by omega)]
  unfold zf
  rw [if_neg (by omega), if_neg hm, if_neg (by omega)]
/-- for the tests behind it -/
theorem St.lack (S : St n v ws es xs fs can r p ei) (hv : v < n) : ∀ u ∈ gsOf xs v (r v), (0 ≤ u ∧ u < (xs.length : Int)) ∧ (0 ≤ ws.getD u.toNat 0 ∧ ws.getD u.toNat 0 ≤ 6) ∧ ((zsOf n ws xs r p ei v).getD u.toNat Str.empty).length ≤ 100 ∧
    (zsOf n ws xs r p ei v).getD u.toNat Str.empty ++ Txt.mul (Str.ofString " ") (if ws.getD u.toNat 0 < 1 then ws.getD u.toNat 0 else 1) = xs.getD u.toNat Str.empty := by
  intro u hu
  obtain ⟨hm, h0⟩ := S.gs_mem.mp hu
  obtain ⟨k, rfl, h1, h2⟩ := S.tk_mem hm
  rw [Int.toNat_natCast] at h0 ⊢
  obtain ⟨a1, a2, a3, _⟩ := S.hi k (by omega) h2
  have hw := S.wb k h2
  have hn := S.hn
  have hlx := S.lx
  have ez : (zsOf n ws xs r p ei v).getD k Str.empty = mlS 0 (p k) ((ws.getD k 0).toNat - 1) (ei k) := by
    rw [zs_get h2]
    unfold zf
    rw [if_neg (by omega), if_pos hm, if_neg (by omega)]
  refine ⟨by omega, by omega, ?_, ?_⟩
  · rw [ez]
    have := ml_len 0 (p k) ((ws.getD k 0).toNat - 1) (ei k)
    omega
  · rw [ez, a3, h0]
    apply str_eq
    have e1 : (if ws.getD k 0 < 1 then ws.getD k 0 else 1) = ((if (ws.getD k 0).toNat = 0 then 0 else 1 : Nat) : Int) := by split <;> split <;> omega
    rw [e1, app_list, mul_sp _ (by split <;> omega), ml_list, ml_list, List.append_assoc, List.replicate_append_replicate]
    have e2 : (ws.getD k 0).toNat - 1 + (if (ws.getD k 0).toNat = 0 then 0 else 1) = (ws.getD k 0).toNat := by split <;> omega
    rw [e2]
/-- for the mails that are told -/
theorem St.told (S : St n v ws es xs fs can r p ei) (hv : v < n) (hc : r v ≤ (lineOf xs v).length) (hr : ∀ a ∈ takenOf xs v (r v), 0 < r a.toNat) :
    ∀ u : Int, (v : Int) ≤ u → u < (n : Int) → (0 ≤ ws.getD u.toNat 0 ∧ ws.getD u.toNat 0 ≤ 5) ∧ (es.getD u.toNat Str.empty).length ≤ 2 ∧ (0 ≤ (fsOf n xs fs v (r v)).getD u.toNat 0 ∧ (fsOf n xs fs v (r v)).getD u.toNat 0 < 64) ∧
      (mailF (ws.getD u.toNat 0) (es.getD u.toNat Str.empty) ((fsOf n xs fs v (r v)).getD u.toNat 0) (if u < (v : Int) + 1 then u else (v : Int) + 1)).length ≤ 100 ∧
      (zsOf n ws xs r p ei v).getD u.toNat Str.empty = mailF (ws.getD u.toNat 0) (es.getD u.toNat Str.empty) ((fsOf n xs fs v (r v)).getD u.toNat 0) (if u < (v : Int) + 1 then u else (v : Int) + 1) ++ Txt.mul (Str.ofString " ") (if u = (v : Int) then ((takenOf xs v (r v)).length : Int) else ws.getD u.toNat 0) := by
  intro u h1 h2
  obtain ⟨k, rfl⟩ : ∃ k : Nat, u = (k : Int) := ⟨u.toNat, by omega⟩
  rw [Int.toNat_natCast]
  have hk : k < n := by omega
  have hn := S.hn
  have hw := S.wb k hk
  obtain ⟨he1, he2⟩ := S.eb k hk
  have ew : ws.getD k 0 = (((ws.getD k 0).toNat : Nat) : Int) := by omega
  have hel : (es.getD k Str.empty).length ≤ 2 := by
    rw [he2]
    have : ei k = 0 ∨ ei k = 1 ∨ ei k = 2 := by omega
    rcases this with q | q | q <;> rw [q] <;> decide
  rcases Nat.lt_or_ge v k with h | h
  · have N := S.next hv hc hr
    obtain ⟨b1, b2, b3, m, b4, b5, b6⟩ := N.hi k (by omega) hk
    have hA := bitA_of (v := v + 1) (m := m) (by omega) b5
    rw [b6] at hA
    have hq : List.count 0 (List.take ((v : Int) + 1).toNat (knL (m : Int))) = pN xs r p v k := by
      have e : ((v : Int) + 1).toNat = v + 1 := by omega
      rw [e]
      omega
    have hwle := S.wle hk
    have hm64 : m < 64 := by
      have h6 : v + 1 ≤ 6 := by omega
      have : 2 ^ (v + 1) ≤ 2 ^ 6 := Nat.pow_le_pow_right (by decide) h6
      omega
    rw [if_neg (by omega), if_neg (by omega), b4, b3, he2, ew, Int.toNat_natCast]
    refine ⟨by omega, by rw [← he2]; exact hel, by omega, ?_, ?_⟩
    · exact mail_len b6 hq (by omega) hwle (by omega) he1
    · have := mail_eq (w := (ws.getD k 0).toNat) (k := (ws.getD k 0).toNat - rN xs r v k) (t := (ws.getD k 0).toNat) b6 hq (by omega) hwle (by omega) he1 (by omega)
      rw [← this]
      congr 1
      omega
  · have e : k = v := by omega
    subst e
    obtain ⟨M, c1, c2, c3, c4⟩ := S.f_v hv hc
    obtain ⟨a1, a2, _⟩ := S.hi k (Nat.le_refl _) hv
    have hwle := S.wle hk
    have c4' : (knL (M : Int)).sum = (((ws.getD k 0).toNat : Nat) : Int) := by rw [c4]; congr 1; omega
    have c3' : List.count 0 (List.take ((k : Int)).toNat (knL (M : Int))) = p k := by rw [Int.toNat_natCast]; exact c3
    have ez : (zsOf n ws xs r p ei k).getD k Str.empty = mlS 0 (p k) (r k) (ei k) := by
      rw [zs_get hk]
      unfold zf
      rw [if_pos rfl]
    rw [if_pos (by omega), if_pos rfl, c1, ez, he2, ew, S.tk_len hc]
    refine ⟨by omega, by rw [← he2]; exact hel, by omega, ?_, ?_⟩
    · exact mail_len c4' c3' (Nat.le_refl _) hwle (by omega) he1
    · have := mail_eq (w := (ws.getD k 0).toNat) (k := (ws.getD k 0).toNat) (t := r k) c4' c3' (Nat.le_refl _) hwle (by omega) he1 (by omega)
      rw [← this]
      congr 1
      omega
/-- for the wishes that are left -/
theorem St.left (S : St n v ws es xs fs can r p ei) : (∀ u : Int, (v : Int) ≤ u → u < (n : Int) → (Builtin.Str.occurrences (xs.getD u.toNat Str.empty) (Str.ofString "K") 0 (xs.getD u.toNat Str.empty).length 1).isEmpty = false ∧ 0 ≤ Txt.find (xs.getD u.toNat Str.empty) (Str.ofString "K") ∧ Txt.find (xs.getD u.toNat Str.empty) (Str.ofString "K") ≤ 6) ∧
    (∀ d : List Int, d.Perm ((rangeKs (v : Int) ((n : Int) - (v : Int)).toNat).map fun u => Txt.find (xs.getD u.toNat Str.empty) (Str.ofString "K")) → d.Pairwise (fun x y => y ≤ x) → gr d = can) := by
  refine ⟨fun u h1 h2 => ?_, fun d hd hs => ?_⟩
  · obtain ⟨k, rfl⟩ : ∃ k : Nat, u = (k : Int) := ⟨u.toNat, by omega⟩
    rw [Int.toNat_natCast]
    have hk : k < n := by omega
    obtain ⟨q1, q2⟩ := S.find (u := k) (by omega) hk
    have := S.wle hk
    have := (S.hi k (by omega) hk).1
    exact ⟨q2, by omega, by omega⟩
  · rw [← S.g]
    refine gr_of (hd.trans (.of_eq ?_)) hs
    have e : ((n : Int) - (v : Int)).toNat = n - v := by omega
    unfold rangeKs
    rw [e, List.range'_eq_map_range, List.map_map, List.map_map, List.map_map]
    refine List.map_congr_left fun j hj => ?_
    have hj := List.mem_range.mp hj
    show Txt.find (xs.getD ((v : Int) + (j : Int)).toNat Str.empty) (Str.ofString "K") = ((r (v + j) : Nat) : Int)
    have e2 : ((v : Int) + (j : Int)).toNat = v + j := by omega
    rw [e2]
    exact (S.find (by omega) (by omega)).1
end
end Mine
end
section
open PySem PySem.W PyProof.Rows
set_option maxRecDepth 100000
set_option maxHeartbeats 8000000
namespace Mine
theorem getD_map' {α β : Type} (f : α → β) (d : α) (d' : β) {l : List α} {k : Nat} (h : k < l.length) : (l.map f).getD k d' = f (l.getD k d) := by
  rw [List.getD_eq_getElem?_getD, List.getD_eq_getElem?_getD, List.getElem?_map, List.getElem?_eq_getElem h]; rfl
theorem rangeKs_get {β : Type} (f : Int → β) (d : β) {n k : Nat} (h : k < n) : ((rangeKs 0 ((n : Int) - 0).toNat).map f).getD k d = f (k : Int) := by
  unfold rangeKs
  rw [List.map_map]
  have e : ((n : Int) - 0).toNat = n := by omega
  rw [e, getD_map_range _ _ h]
  have e2 : (0 : Int) + (k : Int) = (k : Int) := by omega
  simp only [Function.comp_apply, e2]
theorem zeros_get : ∀ (k u : Nat), ((List.replicate k [(0 : Int)]).flatten).getD u 0 = 0
  | 0, u => by simp
  | k + 1, 0 => by simp [List.replicate_succ]
  | k + 1, u + 1 => by
    rw [List.replicate_succ, List.flatten_cons]
    simpa using zeros_get k u
theorem zeros_len (k : Nat) : ((List.replicate k [(0 : Int)]).flatten).length = k := by simp
theorem st_init {n : Nat} (hn : n = 5 ∨ n = 6) {dr : List Int} (hl : dr.length = n) (hb : ∀ x ∈ dr, 0 ≤ x ∧ x < 3 * (n : Int)) {d : List Int} (hd : d.Perm (dr.map fun x : Int => x.fmod (n : Int))) (hs : d.Pairwise (fun x y => y ≤ x)) :
    ∃ r p ei, St n 0 (dr.map fun x : Int => x.fmod (n : Int)) (dr.map fun x : Int => edgeOf (x.fdiv (n : Int)))
      ((rangeKs 0 ((n : Int) - 0).toNat).map fun u => (Txt.mul (Str.ofString " ") ((dr.map fun x : Int => x.fmod (n : Int)).getD u.toNat 0) ++ Str.ofString "K" ++ (dr.map fun x : Int => edgeOf (x.fdiv (n : Int))).getD u.toNat Str.empty ++ Str.ofString "." ++ Txt.mul (Str.ofString " ") ((dr.map fun x : Int => x.fmod (n : Int)).getD u.toNat 0)))
      ((List.replicate (n : Int).toNat [(0 : Int)]).flatten) (gr d) r p ei := by
  have hm : ∀ u, u < n → (dr.getD u 0) ∈ dr := fun u hu => by
    rw [List.getD_eq_getElem?_getD, List.getElem?_eq_getElem (by omega)]
    exact List.getElem_mem _
  have hw : ∀ u, u < n → (dr.map fun x : Int => x.fmod (n : Int)).getD u 0 = (dr.getD u 0).fmod (n : Int) := fun u hu => getD_map' _ _ _ (by omega)
  have he : ∀ u, u < n → (dr.map fun x : Int => edgeOf (x.fdiv (n : Int))).getD u Str.empty = edgeOf ((dr.getD u 0).fdiv (n : Int)) := fun u hu => getD_map' _ _ _ (by omega)
  have hwb : ∀ u, u < n → 0 ≤ (dr.map fun x : Int => x.fmod (n : Int)).getD u 0 ∧ (dr.map fun x : Int => x.fmod (n : Int)).getD u 0 ≤ 5 := fun u hu => by
    rw [hw u hu]
    have h1 := Int.fmod_nonneg_of_pos (dr.getD u 0) (b := (n : Int)) (by omega)
    have h2 := Int.fmod_lt_of_pos (dr.getD u 0) (b := (n : Int)) (by omega)
    omega
  have heb : ∀ u, u < n → ((dr.getD u 0).fdiv (n : Int)).toNat < 3 ∧ (dr.map fun x : Int => edgeOf (x.fdiv (n : Int))).getD u Str.empty = edS ((dr.getD u 0).fdiv (n : Int)).toNat := fun u hu => by
    rw [he u hu]
    have hx := hb _ (hm u hu)
    have hq : (dr.getD u 0).fdiv (n : Int) = 0 ∨ (dr.getD u 0).fdiv (n : Int) = 1 ∨ (dr.getD u 0).fdiv (n : Int) = 2 := by
      rw [Int.fdiv_eq_ediv_of_nonneg _ (by omega)]
      rcases hn with rfl | rfl <;> omega
    rcases hq with q | q | q <;> rw [q] <;> exact ⟨by decide, rfl⟩
  refine ⟨fun u => ((dr.map fun x : Int => x.fmod (n : Int)).getD u 0).toNat, fun _ => 0, fun u => ((dr.getD u 0).fdiv (n : Int)).toNat, hn, by simpa using hl, by simpa using hl, by rw [List.length_map, rangeKs_length]; omega, by rw [zeros_len]; omega, hwb, heb, ?_, ?_, ?_⟩
  · intro u _ hu
    refine ⟨Nat.le_refl _, by omega, ?_, 0, zeros_get _ _, by decide, ?_⟩
    · rw [rangeKs_get _ _ hu, Int.toNat_natCast]
      have hwu := hwb u hu
      obtain ⟨e1, e2⟩ := heb u hu
      rw [e2]
      generalize (dr.map fun x : Int => x.fmod (n : Int)).getD u 0 = x at hwu
      obtain ⟨k, rfl⟩ : ∃ k : Nat, x = (k : Int) := ⟨x.toNat, by omega⟩
      rw [Int.toNat_natCast]
      generalize ((dr.getD u 0).fdiv (n : Int)).toNat = e at e1
      apply str_eq
      rw [app_list, app_list, app_list, app_list, mul_sp _ (by omega), ml_list]
      have e3 : (Str.ofString "K").cps.toList = [75] := by decide
      have e4 : (Str.ofString ".").cps.toList = [46] := by decide
      have e5 : (edS e).cps.toList = edL 0 e := by
        have : e = 0 ∨ e = 1 ∨ e = 2 := by omega
        rcases this with rfl | rfl | rfl <;> decide
      rw [e3, e4, e5]
      unfold core
      simp
    · rw [Nat.sub_self]; decide +kernel
  · intro u h; omega
  · rw [Nat.sub_zero]
    refine (gr_of (hd.trans (.of_eq ?_)) hs).symm
    rw [List.map_map]
    refine List.ext_getElem (by simp [hl]) fun i h1 h2 => ?_
    have hi : i < n := by simpa using h2
    have := hwb i hi
    simp only [List.getElem_map, List.getElem_range', Function.comp_apply]
    have e : (0 + 1 * i) = i := by omega
    rw [e]
    have e6 := hw i hi
    have e7 : dr.getD i 0 = dr[i]'(by omega) := by rw [List.getD_eq_getElem?_getD, List.getElem?_eq_getElem (by omega)]; rfl
    rw [e6, e7] at this ⊢
    omega
end Mine
end
section
open PySem PySem.W PyProof.Rows
set_option maxRecDepth 100000
set_option maxHeartbeats 8000000
namespace Mine
theorem cell_ne {L a b : Nat} (h : a ≠ b) : L + a ≠ L + b := fun e => h (Nat.add_left_cancel e)
/-- no cell that the turn stores into -/
structure Sep (L a : Addr) : Prop where
  c5 : a ≠ L + 5
  c6 : a ≠ L + 6
  c7 : a ≠ L + 7
  c8 : a ≠ L + 8
  c9 : a ≠ L + 9
  c10 : a ≠ L + 10
theorem News.part {h₀ h : Heap} {L : Addr} {l l' : List (Addr × Obj)} (N : News h₀ L h l) (hs : ∀ q ∈ l', q ∈ l) : News h₀ L h l' := fun q hq => N q (hs q hq)
theorem body_eq : forBody (st 8) = [lb 0, lb 1, lb 2, lb 3, lb 4, lb 5, lb 6, lb 7, lb 8, lb 9, lb 10, lb 11] := by rfl
theorem next_cons {M : Model} {A : Around} {E : Value → Shared → Prop} {s : Shared} {env : Env} {Q : Flow → Shared → Prop} {x : Stmt} {l : List Stmt}
    (h : wpAny M A (exec x env) (fun f s' => match f with | .next => wpAny M A (execs l env) Q E s' | f => Q f s') E s) : wpAny M A (execs (x :: l) env) Q E s := wpAny_execs_cons h
theorem T_turn (w : World) (mean : ExcName → Option Value) (mg mb : Str → Option Value) (dp un : Nat) (gd : Option (List Code)) (L : Addr) (outer : List Env) (A₀ : Around) (base h₀ : Heap) (m₀ : Str → Option Value) (s : Shared) (Q : Flow → Shared → Prop) (E : Value → Shared → Prop) (fa : Addr) (cd : Value)
  (I : Addr) (oI : Obj) (p : Addr) (ps : List Value) (pn : Nat) (f : Addr) (fv : List Value) (fn : Nat) (wd : Addr) (wv : List Value) (wn : Nat) (ed : Addr) (ev : List Value) (en : Nat) (o1 o3 o4 o5 o6 o7 o8 o9 o10 : Obj) (n v : Nat) (tn tv : Tok) (v8 v9 v10 : Option Value)
  (ws : List Int) (es xs : List Str) (fs : List Int) (can : Bool) (r pp ei : Nat → Nat)
  (B : Below A₀ base outer h₀) (F : Fr h₀ L s.heap (fun y => if y = Str.ofString "can" then some (.bool can) else m₀ y)) (KX : (Mine.hd.heap_39 w.params).In h₀) (N : News h₀ L s.heap ((I, oI) :: (p, listOf ps.toArray pn) :: (f, listOf fv.toArray fn) :: (wd, listOf wv.toArray wn) :: (ed, listOf ev.toArray en) :: (L+1, o1) :: (L+3, o3) :: (L+4, o4) :: (L+5, o5) :: (L+6, o6) :: (L+7, o7) :: (L+8, o8) :: (L+9, o9) :: (L+10, o10) :: []))
  (T : Top Mine.hd.view_39 [Str.ofString "_twin_re_1", Str.ofString "_twin_re_2", Str.ofString "_sre"] mean mg mb h₀) (hdp : dp + 16 < recursionLimit) (hun : un + 128 < cLine) (hE : PassesOwn (model PySem.Challenge.rw_wn0018_01.row.prog w) (ktrTop dp un gd (Str.ofString "law") lawScope L fa cd (lawCells L) outer) (envX (Str.ofString "law") lawScope L fa cd (lawCells L)) E)
  (hp : StrsAre ps xs) (hf : IntsAre fv fs) (hw : IntsAre wv ws) (he : StrsAre ev es)
  (d1 : o1.data = .cell (some (.int (n : Int) tn))) (d3 : o3.data = .cell (some (.ref wd))) (d4 : o4.data = .cell (some (.ref ed))) (d5 : o5.data = .cell (some (.ref p))) (d6 : o6.data = .cell (some (.ref f))) (d7 : o7.data = .cell (some (.int (v : Int) tv))) (d8 : o8.data = .cell v8) (d9 : o9.data = .cell v9) (d10 : o10.data = .cell v10)
  (sI : Sep L I) (sp : Sep L p) (sf : Sep L f) (sw : Sep L wd) (se : Sep L ed)
  (S : St n v ws es xs fs can r pp ei) (hv : v < n)
  (hQ : (∀ h tk m a av ak g gv gn o5 o6 o8 o9 o10 v8 v9 v10 xs' fs' r' pp', m (Str.ofString "can") = some (.bool can) → Fr h₀ L h m → News h₀ L h ((I, oI) :: (a, listOf av.toArray ak) :: (g, listOf gv.toArray gn) :: (wd, listOf wv.toArray wn) :: (ed, listOf ev.toArray en) :: (L+1, o1) :: (L+3, o3) :: (L+4, o4) :: (L+5, o5) :: (L+6, o6) :: (L+7, o7) :: (L+8, o8) :: (L+9, o9) :: (L+10, o10) :: []) → StrsAre av xs' → IntsAre gv fs' → o5.data = .cell (some (.ref a)) → o6.data = .cell (some (.ref g)) → o8.data = .cell v8 → o9.data = .cell v9 → o10.data = .cell v10 → Sep L a → Sep L g → a ≠ I → g ≠ I → St n (v + 1) ws es xs' fs' can r' pp' ei → Q .next { s with heap := h, toks := tk }) ∧ (∀ h tk m, Fr h₀ L h m → Q (.ret (.bool true)) { s with heap := h, toks := tk }))
  : wpAny (model PySem.Challenge.rw_wn0018_01.row.prog w) (ktrTop dp un gd (Str.ofString "law") lawScope L fa cd (lawCells L) outer) (execs (forBody (st 8)) (envX (Str.ofString "law") lawScope L fa cd (lawCells L))) Q E s := by
  have hn := S.hn
  have hlx := S.lx
  have hlw := S.lw
  have hle := S.le
  have hlf := S.lf
  have hll := S.line_len
  have hfd := S.find (Nat.le_refl _) hv
  have hrw := (S.hi v (Nat.le_refl _) hv).1
  have hwv := S.wle hv
  rw [body_eq]
  have N9 := N
  have F9 := F
  refine next_cons (S_waiting _ _ _ _ _ _ _ _ _ _ _ _ _ _ _ _ _ _ _ p ps pn xs (v : Int) tv o5 o7 B F9 KX (News.part (l' := (p, listOf ps.toArray pn) :: (L+5, o5) :: (L+7, o7) :: (I, oI) :: (f, listOf fv.toArray fn) :: (wd, listOf wv.toArray wn) :: (ed, listOf ev.toArray en) :: (L+1, o1) :: (L+3, o3) :: (L+4, o4) :: (L+6, o6) :: (L+8, o8) :: (L+9, o9) :: (L+10, o10) :: []) N9 (List.forall_mem_cons.mpr ⟨.tail _ (.head _), List.forall_mem_cons.mpr ⟨.tail _ (.tail _ (.tail _ (.tail _ (.tail _ (.tail _ (.tail _ (.tail _ (.head _)))))))), List.forall_mem_cons.mpr ⟨.tail _ (.tail _ (.tail _ (.tail _ (.tail _ (.tail _ (.tail _ (.tail _ (.tail _ (.tail _ (.head _)))))))))), List.forall_mem_cons.mpr ⟨.head _, List.forall_mem_cons.mpr ⟨.tail _ (.tail _ (.head _)), List.forall_mem_cons.mpr ⟨.tail _ (.tail _ (.tail _ (.head _))), List.forall_mem_cons.mpr ⟨.tail _ (.tail _ (.tail _ (.tail _ (.head _)))), List.forall_mem_cons.mpr ⟨.tail _ (.tail _ (.tail _ (.tail _ (.tail _ (.head _))))), List.forall_mem_cons.mpr ⟨.tail _ (.tail _ (.tail _ (.tail _ (.tail _ (.tail _ (.head _)))))), List.forall_mem_cons.mpr ⟨.tail _ (.tail _ (.tail _ (.tail _ (.tail _ (.tail _ (.tail _ (.head _))))))), List.forall_mem_cons.mpr ⟨.tail _ (.tail _ (.tail _ (.tail _ (.tail _ (.tail _ (.tail _ (.tail _ (.tail _ (.head _))))))))), List.forall_mem_cons.mpr ⟨.tail _ (.tail _ (.tail _ (.tail _ (.tail _ (.tail _ (.tail _ (.tail _ (.tail _ (.tail _ (.tail _ (.head _))))))))))), List.forall_mem_cons.mpr ⟨.tail _ (.tail _ (.tail _ (.tail _ (.tail _ (.tail _ (.tail _ (.tail _ (.tail _ (.tail _ (.tail _ (.tail _ (.head _)))))))))))), List.forall_mem_cons.mpr ⟨.tail _ (.tail _ (.tail _ (.tail _ (.tail _ (.tail _ (.tail _ (.tail _ (.tail _ (.tail _ (.tail _ (.tail _ (.tail _ (.head _))))))))))))), fun _ h => nomatch h⟩⟩⟩⟩⟩⟩⟩⟩⟩⟩⟩⟩⟩⟩)) T hdp hun hp (by omega) (by omega) d5 d7 ?_)
  intro h1 tk1 D0 w0 k0 F1 N1 hI0 hlt0
  have s0 : Sep L D0 := ⟨Nat.ne_of_gt (hlt0 _ (.tail _ (.head _))), Nat.ne_of_gt (hlt0 _ (.tail _ (.tail _ (.tail _ (.tail _ (.tail _ (.tail _ (.tail _ (.tail _ (.tail _ (.tail _ (.head _)))))))))))), Nat.ne_of_gt (hlt0 _ (.tail _ (.tail _ (.head _)))), Nat.ne_of_gt (hlt0 _ (.tail _ (.tail _ (.tail _ (.tail _ (.tail _ (.tail _ (.tail _ (.tail _ (.tail _ (.tail _ (.tail _ (.head _))))))))))))), Nat.ne_of_gt (hlt0 _ (.tail _ (.tail _ (.tail _ (.tail _ (.tail _ (.tail _ (.tail _ (.tail _ (.tail _ (.tail _ (.tail _ (.tail _ (.head _)))))))))))))), Nat.ne_of_gt (hlt0 _ (.tail _ (.tail _ (.tail _ (.tail _ (.tail _ (.tail _ (.tail _ (.tail _ (.tail _ (.tail _ (.tail _ (.tail _ (.tail _ (.head _)))))))))))))))⟩
  replace hI0 : IntsAre w0 (lineOf xs v) := hI0
  clear N9 F9
  have N9 := N1
  have F9 := F1
  clear N1 F1
  refine next_cons (S_count _ _ _ _ _ _ _ _ _ _ _ _ _ _ _ _ _ _ _ p ps pn xs (v : Int) tv o5 o7 B F9 KX (News.part (l' := (p, listOf ps.toArray pn) :: (L+5, o5) :: (L+7, o7) :: (D0, listOf (List.toArray w0) k0) :: (I, oI) :: (f, listOf fv.toArray fn) :: (wd, listOf wv.toArray wn) :: (ed, listOf ev.toArray en) :: (L+1, o1) :: (L+3, o3) :: (L+4, o4) :: (L+6, o6) :: (L+8, o8) :: (L+9, o9) :: (L+10, o10) :: []) N9 (List.forall_mem_cons.mpr ⟨.tail _ (.head _), List.forall_mem_cons.mpr ⟨.tail _ (.tail _ (.head _)), List.forall_mem_cons.mpr ⟨.tail _ (.tail _ (.tail _ (.head _))), List.forall_mem_cons.mpr ⟨.head _, List.forall_mem_cons.mpr ⟨.tail _ (.tail _ (.tail _ (.tail _ (.head _)))), List.forall_mem_cons.mpr ⟨.tail _ (.tail _ (.tail _ (.tail _ (.tail _ (.head _))))), List.forall_mem_cons.mpr ⟨.tail _ (.tail _ (.tail _ (.tail _ (.tail _ (.tail _ (.head _)))))), List.forall_mem_cons.mpr ⟨.tail _ (.tail _ (.tail _ (.tail _ (.tail _ (.tail _ (.tail _ (.head _))))))), List.forall_mem_cons.mpr ⟨.tail _ (.tail _ (.tail _ (.tail _ (.tail _ (.tail _ (.tail _ (.tail _ (.head _)))))))), List.forall_mem_cons.mpr ⟨.tail _ (.tail _ (.tail _ (.tail _ (.tail _ (.tail _ (.tail _ (.tail _ (.tail _ (.head _))))))))), List.forall_mem_cons.mpr ⟨.tail _ (.tail _ (.tail _ (.tail _ (.tail _ (.tail _ (.tail _ (.tail _ (.tail _ (.tail _ (.head _)))))))))), List.forall_mem_cons.mpr ⟨.tail _ (.tail _ (.tail _ (.tail _ (.tail _ (.tail _ (.tail _ (.tail _ (.tail _ (.tail _ (.tail _ (.head _))))))))))), List.forall_mem_cons.mpr ⟨.tail _ (.tail _ (.tail _ (.tail _ (.tail _ (.tail _ (.tail _ (.tail _ (.tail _ (.tail _ (.tail _ (.tail _ (.head _)))))))))))), List.forall_mem_cons.mpr ⟨.tail _ (.tail _ (.tail _ (.tail _ (.tail _ (.tail _ (.tail _ (.tail _ (.tail _ (.tail _ (.tail _ (.tail _ (.tail _ (.head _))))))))))))), List.forall_mem_cons.mpr ⟨.tail _ (.tail _ (.tail _ (.tail _ (.tail _ (.tail _ (.tail _ (.tail _ (.tail _ (.tail _ (.tail _ (.tail _ (.tail _ (.tail _ (.head _)))))))))))))), fun _ h => nomatch h⟩⟩⟩⟩⟩⟩⟩⟩⟩⟩⟩⟩⟩⟩⟩)) T hdp hun hp (by omega) (by omega) d5 d7 (by rw [Int.toNat_natCast]; exact hfd.2) ?_)
  intro h2 tk2 tc F2 N2
  rw [Int.toNat_natCast, hfd.1] at F2
  clear N9 F9
  have N9 := N2
  have F9 := Fr_ex3 (x := Str.ofString "waiting") (y := Str.ofString "count") (z := Str.ofString "can") F2 (by rfl) (by rfl) (by rfl)
  clear N2 F2
  refine next_cons (S_taken _ _ _ _ _ _ _ _ _ _ _ _ _ _ _ _ _ _ _ D0 w0 k0 (lineOf xs v) (r v : Int) tc o8 v8 B F9 KX (News.part (l' := (D0, listOf (List.toArray w0) k0) :: (L+8, o8) :: (p, listOf ps.toArray pn) :: (L+5, o5) :: (L+7, o7) :: (I, oI) :: (f, listOf fv.toArray fn) :: (wd, listOf wv.toArray wn) :: (ed, listOf ev.toArray en) :: (L+1, o1) :: (L+3, o3) :: (L+4, o4) :: (L+6, o6) :: (L+9, o9) :: (L+10, o10) :: []) N9 (List.forall_mem_cons.mpr ⟨.tail _ (.tail _ (.tail _ (.head _))), List.forall_mem_cons.mpr ⟨.tail _ (.tail _ (.tail _ (.tail _ (.tail _ (.tail _ (.tail _ (.tail _ (.tail _ (.tail _ (.tail _ (.tail _ (.head _)))))))))))), List.forall_mem_cons.mpr ⟨.head _, List.forall_mem_cons.mpr ⟨.tail _ (.head _), List.forall_mem_cons.mpr ⟨.tail _ (.tail _ (.head _)), List.forall_mem_cons.mpr ⟨.tail _ (.tail _ (.tail _ (.tail _ (.head _)))), List.forall_mem_cons.mpr ⟨.tail _ (.tail _ (.tail _ (.tail _ (.tail _ (.head _))))), List.forall_mem_cons.mpr ⟨.tail _ (.tail _ (.tail _ (.tail _ (.tail _ (.tail _ (.head _)))))), List.forall_mem_cons.mpr ⟨.tail _ (.tail _ (.tail _ (.tail _ (.tail _ (.tail _ (.tail _ (.head _))))))), List.forall_mem_cons.mpr ⟨.tail _ (.tail _ (.tail _ (.tail _ (.tail _ (.tail _ (.tail _ (.tail _ (.head _)))))))), List.forall_mem_cons.mpr ⟨.tail _ (.tail _ (.tail _ (.tail _ (.tail _ (.tail _ (.tail _ (.tail _ (.tail _ (.head _))))))))), List.forall_mem_cons.mpr ⟨.tail _ (.tail _ (.tail _ (.tail _ (.tail _ (.tail _ (.tail _ (.tail _ (.tail _ (.tail _ (.head _)))))))))), List.forall_mem_cons.mpr ⟨.tail _ (.tail _ (.tail _ (.tail _ (.tail _ (.tail _ (.tail _ (.tail _ (.tail _ (.tail _ (.tail _ (.head _))))))))))), List.forall_mem_cons.mpr ⟨.tail _ (.tail _ (.tail _ (.tail _ (.tail _ (.tail _ (.tail _ (.tail _ (.tail _ (.tail _ (.tail _ (.tail _ (.tail _ (.head _))))))))))))), List.forall_mem_cons.mpr ⟨.tail _ (.tail _ (.tail _ (.tail _ (.tail _ (.tail _ (.tail _ (.tail _ (.tail _ (.tail _ (.tail _ (.tail _ (.tail _ (.tail _ (.head _)))))))))))))), fun _ h => nomatch h⟩⟩⟩⟩⟩⟩⟩⟩⟩⟩⟩⟩⟩⟩⟩)) T hdp hun hI0 (by omega) (by omega) d8 s0.c8 (List.forall_mem_cons.mpr ⟨sp.c8, List.forall_mem_cons.mpr ⟨cell_ne (by decide), List.forall_mem_cons.mpr ⟨cell_ne (by decide), List.forall_mem_cons.mpr ⟨sI.c8, List.forall_mem_cons.mpr ⟨sf.c8, List.forall_mem_cons.mpr ⟨sw.c8, List.forall_mem_cons.mpr ⟨se.c8, List.forall_mem_cons.mpr ⟨cell_ne (by decide), List.forall_mem_cons.mpr ⟨cell_ne (by decide), List.forall_mem_cons.mpr ⟨cell_ne (by decide), List.forall_mem_cons.mpr ⟨cell_ne (by decide), List.forall_mem_cons.mpr ⟨cell_ne (by decide), List.forall_mem_cons.mpr ⟨cell_ne (by decide), fun _ h => nomatch h⟩⟩⟩⟩⟩⟩⟩⟩⟩⟩⟩⟩⟩) ?_)
  intro h3 tk3 D1 w1 k1 o81 F3 N3 hI1 d81 hlt1
  rw [Int.toNat_natCast] at hI1
  replace hI1 : IntsAre w1 (takenOf xs v (r v)) := hI1
  have s1 : Sep L D1 := ⟨Nat.ne_of_gt (hlt1 _ (.tail _ (.tail _ (.tail _ (.head _))))), Nat.ne_of_gt (hlt1 _ (.tail _ (.tail _ (.tail _ (.tail _ (.tail _ (.tail _ (.tail _ (.tail _ (.tail _ (.tail _ (.tail _ (.tail _ (.head _)))))))))))))), Nat.ne_of_gt (hlt1 _ (.tail _ (.tail _ (.tail _ (.tail _ (.head _)))))), Nat.ne_of_gt (hlt1 _ (.tail _ (.head _))), Nat.ne_of_gt (hlt1 _ (.tail _ (.tail _ (.tail _ (.tail _ (.tail _ (.tail _ (.tail _ (.tail _ (.tail _ (.tail _ (.tail _ (.tail _ (.tail _ (.head _))))))))))))))), Nat.ne_of_gt (hlt1 _ (.tail _ (.tail _ (.tail _ (.tail _ (.tail _ (.tail _ (.tail _ (.tail _ (.tail _ (.tail _ (.tail _ (.tail _ (.tail _ (.tail _ (.head _))))))))))))))))⟩
  clear N9 F9
  have N9 := N3
  have F9 := F3
  clear N3 F3
  refine next_cons (S_after _ _ _ _ _ _ _ _ _ _ _ _ _ _ _ _ _ _ _ o9 v9 B F9 KX (News.part (l' := (L+9, o9) :: (D1, listOf (List.toArray w1) k1) :: (D0, listOf (List.toArray w0) k0) :: (L+8, o81) :: (p, listOf ps.toArray pn) :: (L+5, o5) :: (L+7, o7) :: (I, oI) :: (f, listOf fv.toArray fn) :: (wd, listOf wv.toArray wn) :: (ed, listOf ev.toArray en) :: (L+1, o1) :: (L+3, o3) :: (L+4, o4) :: (L+6, o6) :: (L+10, o10) :: []) N9 (List.forall_mem_cons.mpr ⟨.tail _ (.tail _ (.tail _ (.tail _ (.tail _ (.tail _ (.tail _ (.tail _ (.tail _ (.tail _ (.tail _ (.tail _ (.tail _ (.tail _ (.head _)))))))))))))), List.forall_mem_cons.mpr ⟨.head _, List.forall_mem_cons.mpr ⟨.tail _ (.head _), List.forall_mem_cons.mpr ⟨.tail _ (.tail _ (.head _)), List.forall_mem_cons.mpr ⟨.tail _ (.tail _ (.tail _ (.head _))), List.forall_mem_cons.mpr ⟨.tail _ (.tail _ (.tail _ (.tail _ (.head _)))), List.forall_mem_cons.mpr ⟨.tail _ (.tail _ (.tail _ (.tail _ (.tail _ (.head _))))), List.forall_mem_cons.mpr ⟨.tail _ (.tail _ (.tail _ (.tail _ (.tail _ (.tail _ (.head _)))))), List.forall_mem_cons.mpr ⟨.tail _ (.tail _ (.tail _ (.tail _ (.tail _ (.tail _ (.tail _ (.head _))))))), List.forall_mem_cons.mpr ⟨.tail _ (.tail _ (.tail _ (.tail _ (.tail _ (.tail _ (.tail _ (.tail _ (.head _)))))))), List.forall_mem_cons.mpr ⟨.tail _ (.tail _ (.tail _ (.tail _ (.tail _ (.tail _ (.tail _ (.tail _ (.tail _ (.head _))))))))), List.forall_mem_cons.mpr ⟨.tail _ (.tail _ (.tail _ (.tail _ (.tail _ (.tail _ (.tail _ (.tail _ (.tail _ (.tail _ (.head _)))))))))), List.forall_mem_cons.mpr ⟨.tail _ (.tail _ (.tail _ (.tail _ (.tail _ (.tail _ (.tail _ (.tail _ (.tail _ (.tail _ (.tail _ (.head _))))))))))), List.forall_mem_cons.mpr ⟨.tail _ (.tail _ (.tail _ (.tail _ (.tail _ (.tail _ (.tail _ (.tail _ (.tail _ (.tail _ (.tail _ (.tail _ (.head _)))))))))))), List.forall_mem_cons.mpr ⟨.tail _ (.tail _ (.tail _ (.tail _ (.tail _ (.tail _ (.tail _ (.tail _ (.tail _ (.tail _ (.tail _ (.tail _ (.tail _ (.head _))))))))))))), List.forall_mem_cons.mpr ⟨.tail _ (.tail _ (.tail _ (.tail _ (.tail _ (.tail _ (.tail _ (.tail _ (.tail _ (.tail _ (.tail _ (.tail _ (.tail _ (.tail _ (.tail _ (.head _))))))))))))))), fun _ h => nomatch h⟩⟩⟩⟩⟩⟩⟩⟩⟩⟩⟩⟩⟩⟩⟩⟩)) T hdp hun d9 (List.forall_mem_cons.mpr ⟨s1.c9, List.forall_mem_cons.mpr ⟨s0.c9, List.forall_mem_cons.mpr ⟨cell_ne (by decide), List.forall_mem_cons.mpr ⟨sp.c9, List.forall_mem_cons.mpr ⟨cell_ne (by decide), List.forall_mem_cons.mpr ⟨cell_ne (by decide), List.forall_mem_cons.mpr ⟨sI.c9, List.forall_mem_cons.mpr ⟨sf.c9, List.forall_mem_cons.mpr ⟨sw.c9, List.forall_mem_cons.mpr ⟨se.c9, List.forall_mem_cons.mpr ⟨cell_ne (by decide), List.forall_mem_cons.mpr ⟨cell_ne (by decide), List.forall_mem_cons.mpr ⟨cell_ne (by decide), List.forall_mem_cons.mpr ⟨cell_ne (by decide), List.forall_mem_cons.mpr ⟨cell_ne (by decide), fun _ h => nomatch h⟩⟩⟩⟩⟩⟩⟩⟩⟩⟩⟩⟩⟩⟩⟩) ?_)
  intro h4 tk4 D2 k2 o91 F4 N4 d91 hlt2
  have s2 : Sep L D2 := ⟨Nat.ne_of_gt (hlt2 _ (.tail _ (.tail _ (.tail _ (.tail _ (.tail _ (.head _))))))), Nat.ne_of_gt (hlt2 _ (.tail _ (.tail _ (.tail _ (.tail _ (.tail _ (.tail _ (.tail _ (.tail _ (.tail _ (.tail _ (.tail _ (.tail _ (.tail _ (.tail _ (.head _)))))))))))))))), Nat.ne_of_gt (hlt2 _ (.tail _ (.tail _ (.tail _ (.tail _ (.tail _ (.tail _ (.head _)))))))), Nat.ne_of_gt (hlt2 _ (.tail _ (.tail _ (.tail _ (.head _))))), Nat.ne_of_gt (hlt2 _ (.head _)), Nat.ne_of_gt (hlt2 _ (.tail _ (.tail _ (.tail _ (.tail _ (.tail _ (.tail _ (.tail _ (.tail _ (.tail _ (.tail _ (.tail _ (.tail _ (.tail _ (.tail _ (.tail _ (.head _)))))))))))))))))⟩
  have i2 : D2 ≠ I := Nat.ne_of_gt (hlt2 (I, oI) (.tail _ (.tail _ (.tail _ (.tail _ (.tail _ (.tail _ (.tail _ (.head _)))))))))
  clear N9 F9
  have N9 := N4
  have F9 := Fr_ex3 (x := Str.ofString "count") (y := Str.ofString "waiting") (z := Str.ofString "can") F4 (by rfl) (by rfl) (by rfl)
  clear N4 F4
  refine next_cons (S_for4 _ _ _ _ _ _ _ _ _ _ _ _ _ _ _ _ _ _ _ D2 k2 D1 w1 k1 (takenOf xs v (r v)) p ps pn xs wd wv wn ws (zsOf n ws xs r pp ei v) o1 o3 o5 o7 o81 o91 (n : Int) (v : Int) tn tv (r v : Int) tc D0 can B F9 KX (News.part (l' := (D2, listOf (List.toArray []) k2) :: (D1, listOf (List.toArray w1) k1) :: (p, listOf ps.toArray pn) :: (wd, listOf wv.toArray wn) :: (L+1, o1) :: (L+3, o3) :: (L+5, o5) :: (L+7, o7) :: (L+8, o81) :: (L+9, o91) :: (D0, listOf (List.toArray w0) k0) :: (I, oI) :: (f, listOf fv.toArray fn) :: (ed, listOf ev.toArray en) :: (L+4, o4) :: (L+6, o6) :: (L+10, o10) :: []) N9 (List.forall_mem_cons.mpr ⟨.head _, List.forall_mem_cons.mpr ⟨.tail _ (.tail _ (.head _)), List.forall_mem_cons.mpr ⟨.tail _ (.tail _ (.tail _ (.tail _ (.tail _ (.head _))))), List.forall_mem_cons.mpr ⟨.tail _ (.tail _ (.tail _ (.tail _ (.tail _ (.tail _ (.tail _ (.tail _ (.tail _ (.tail _ (.head _)))))))))), List.forall_mem_cons.mpr ⟨.tail _ (.tail _ (.tail _ (.tail _ (.tail _ (.tail _ (.tail _ (.tail _ (.tail _ (.tail _ (.tail _ (.tail _ (.head _)))))))))))), List.forall_mem_cons.mpr ⟨.tail _ (.tail _ (.tail _ (.tail _ (.tail _ (.tail _ (.tail _ (.tail _ (.tail _ (.tail _ (.tail _ (.tail _ (.tail _ (.head _))))))))))))), List.forall_mem_cons.mpr ⟨.tail _ (.tail _ (.tail _ (.tail _ (.tail _ (.tail _ (.head _)))))), List.forall_mem_cons.mpr ⟨.tail _ (.tail _ (.tail _ (.tail _ (.tail _ (.tail _ (.tail _ (.head _))))))), List.forall_mem_cons.mpr ⟨.tail _ (.tail _ (.tail _ (.tail _ (.head _)))), List.forall_mem_cons.mpr ⟨.tail _ (.head _), List.forall_mem_cons.mpr ⟨.tail _ (.tail _ (.tail _ (.head _))), List.forall_mem_cons.mpr ⟨.tail _ (.tail _ (.tail _ (.tail _ (.tail _ (.tail _ (.tail _ (.tail _ (.head _)))))))), List.forall_mem_cons.mpr ⟨.tail _ (.tail _ (.tail _ (.tail _ (.tail _ (.tail _ (.tail _ (.tail _ (.tail _ (.head _))))))))), List.forall_mem_cons.mpr ⟨.tail _ (.tail _ (.tail _ (.tail _ (.tail _ (.tail _ (.tail _ (.tail _ (.tail _ (.tail _ (.tail _ (.head _))))))))))), List.forall_mem_cons.mpr ⟨.tail _ (.tail _ (.tail _ (.tail _ (.tail _ (.tail _ (.tail _ (.tail _ (.tail _ (.tail _ (.tail _ (.tail _ (.tail _ (.tail _ (.head _)))))))))))))), List.forall_mem_cons.mpr ⟨.tail _ (.tail _ (.tail _ (.tail _ (.tail _ (.tail _ (.tail _ (.tail _ (.tail _ (.tail _ (.tail _ (.tail _ (.tail _ (.tail _ (.tail _ (.head _))))))))))))))), List.forall_mem_cons.mpr ⟨.tail _ (.tail _ (.tail _ (.tail _ (.tail _ (.tail _ (.tail _ (.tail _ (.tail _ (.tail _ (.tail _ (.tail _ (.tail _ (.tail _ (.tail _ (.tail _ (.head _)))))))))))))))), fun _ h => nomatch h⟩⟩⟩⟩⟩⟩⟩⟩⟩⟩⟩⟩⟩⟩⟩⟩⟩)) T hdp hun hI1 (by rw [takenOf, List.length_take]; omega) hp (by omega) hw (by omega) (by omega) (by omega) (by rw [zs_len]) (List.forall_mem_cons.mpr ⟨Nat.ne_of_lt (hlt2 (D1, listOf (List.toArray w1) k1) (.tail _ (.head _))), List.forall_mem_cons.mpr ⟨Nat.ne_of_lt (hlt2 (p, listOf ps.toArray pn) (.tail _ (.tail _ (.tail _ (.tail _ (.head _)))))), List.forall_mem_cons.mpr ⟨Nat.ne_of_lt (hlt2 (wd, listOf wv.toArray wn) (.tail _ (.tail _ (.tail _ (.tail _ (.tail _ (.tail _ (.tail _ (.tail _ (.tail _ (.head _))))))))))), List.forall_mem_cons.mpr ⟨Nat.ne_of_lt (hlt2 (L+1, o1) (.tail _ (.tail _ (.tail _ (.tail _ (.tail _ (.tail _ (.tail _ (.tail _ (.tail _ (.tail _ (.tail _ (.head _))))))))))))), List.forall_mem_cons.mpr ⟨Nat.ne_of_lt (hlt2 (L+3, o3) (.tail _ (.tail _ (.tail _ (.tail _ (.tail _ (.tail _ (.tail _ (.tail _ (.tail _ (.tail _ (.tail _ (.tail _ (.head _)))))))))))))), List.forall_mem_cons.mpr ⟨Nat.ne_of_lt (hlt2 (L+5, o5) (.tail _ (.tail _ (.tail _ (.tail _ (.tail _ (.head _))))))), List.forall_mem_cons.mpr ⟨Nat.ne_of_lt (hlt2 (L+7, o7) (.tail _ (.tail _ (.tail _ (.tail _ (.tail _ (.tail _ (.head _)))))))), List.forall_mem_cons.mpr ⟨Nat.ne_of_lt (hlt2 (L+8, o81) (.tail _ (.tail _ (.tail _ (.head _))))), List.forall_mem_cons.mpr ⟨Nat.ne_of_lt (hlt2 (L+9, o9) (.head _)), List.forall_mem_cons.mpr ⟨Nat.ne_of_lt (hlt2 (D0, listOf (List.toArray w0) k0) (.tail _ (.tail _ (.head _)))), List.forall_mem_cons.mpr ⟨Nat.ne_of_lt (hlt2 (I, oI) (.tail _ (.tail _ (.tail _ (.tail _ (.tail _ (.tail _ (.tail _ (.head _))))))))), List.forall_mem_cons.mpr ⟨Nat.ne_of_lt (hlt2 (f, listOf fv.toArray fn) (.tail _ (.tail _ (.tail _ (.tail _ (.tail _ (.tail _ (.tail _ (.tail _ (.head _)))))))))), List.forall_mem_cons.mpr ⟨Nat.ne_of_lt (hlt2 (ed, listOf ev.toArray en) (.tail _ (.tail _ (.tail _ (.tail _ (.tail _ (.tail _ (.tail _ (.tail _ (.tail _ (.tail _ (.head _)))))))))))), List.forall_mem_cons.mpr ⟨Nat.ne_of_lt (hlt2 (L+4, o4) (.tail _ (.tail _ (.tail _ (.tail _ (.tail _ (.tail _ (.tail _ (.tail _ (.tail _ (.tail _ (.tail _ (.tail _ (.tail _ (.head _))))))))))))))), List.forall_mem_cons.mpr ⟨Nat.ne_of_lt (hlt2 (L+6, o6) (.tail _ (.tail _ (.tail _ (.tail _ (.tail _ (.tail _ (.tail _ (.tail _ (.tail _ (.tail _ (.tail _ (.tail _ (.tail _ (.tail _ (.head _)))))))))))))))), List.forall_mem_cons.mpr ⟨Nat.ne_of_lt (hlt2 (L+10, o10) (.tail _ (.tail _ (.tail _ (.tail _ (.tail _ (.tail _ (.tail _ (.tail _ (.tail _ (.tail _ (.tail _ (.tail _ (.tail _ (.tail _ (.tail _ (.head _))))))))))))))))), fun _ h => nomatch h⟩⟩⟩⟩⟩⟩⟩⟩⟩⟩⟩⟩⟩⟩⟩⟩) d1 d3 d5 d7 d81 d91 hE (S.for0 hv) (S.for1 hv) (S.for2 hv) (S.for3 hv) ?_)
  intro h5 tk5 m5 av ak hm1 hm2 hm3 hav F5 N5
  clear N9 F9
  have N9 := N5
  have F9 := F5
  clear N5 F5
  have htk : ∀ k ∈ takenOf xs v (r v), (0 ≤ k ∧ k < (xs.length : Int)) ∧ (Builtin.Str.occurrences (xs.getD k.toNat Str.empty) (Str.ofString "K") 0 (xs.getD k.toNat Str.empty).length 1).isEmpty = false := fun k hk => by
    obtain ⟨u, rfl, h1, h2⟩ := S.tk_mem hk
    rw [Int.toNat_natCast]
    exact ⟨by omega, (S.find (by omega) h2).2⟩
  refine next_cons (S_lacking _ _ _ _ _ _ _ _ _ _ _ _ _ _ _ _ _ _ _ D1 w1 k1 (takenOf xs v (r v)) p ps pn xs o5 o81 B F9 KX (News.part (l' := (D1, listOf (List.toArray w1) k1) :: (p, listOf ps.toArray pn) :: (L+5, o5) :: (L+8, o81) :: (D2, listOf av.toArray ak) :: (wd, listOf wv.toArray wn) :: (L+1, o1) :: (L+3, o3) :: (L+7, o7) :: (L+9, o91) :: (D0, listOf (List.toArray w0) k0) :: (I, oI) :: (f, listOf fv.toArray fn) :: (ed, listOf ev.toArray en) :: (L+4, o4) :: (L+6, o6) :: (L+10, o10) :: []) N9 (List.forall_mem_cons.mpr ⟨.tail _ (.head _), List.forall_mem_cons.mpr ⟨.tail _ (.tail _ (.head _)), List.forall_mem_cons.mpr ⟨.tail _ (.tail _ (.tail _ (.tail _ (.tail _ (.tail _ (.head _)))))), List.forall_mem_cons.mpr ⟨.tail _ (.tail _ (.tail _ (.tail _ (.tail _ (.tail _ (.tail _ (.tail _ (.head _)))))))), List.forall_mem_cons.mpr ⟨.head _, List.forall_mem_cons.mpr ⟨.tail _ (.tail _ (.tail _ (.head _))), List.forall_mem_cons.mpr ⟨.tail _ (.tail _ (.tail _ (.tail _ (.head _)))), List.forall_mem_cons.mpr ⟨.tail _ (.tail _ (.tail _ (.tail _ (.tail _ (.head _))))), List.forall_mem_cons.mpr ⟨.tail _ (.tail _ (.tail _ (.tail _ (.tail _ (.tail _ (.tail _ (.head _))))))), List.forall_mem_cons.mpr ⟨.tail _ (.tail _ (.tail _ (.tail _ (.tail _ (.tail _ (.tail _ (.tail _ (.tail _ (.head _))))))))), List.forall_mem_cons.mpr ⟨.tail _ (.tail _ (.tail _ (.tail _ (.tail _ (.tail _ (.tail _ (.tail _ (.tail _ (.tail _ (.head _)))))))))), List.forall_mem_cons.mpr ⟨.tail _ (.tail _ (.tail _ (.tail _ (.tail _ (.tail _ (.tail _ (.tail _ (.tail _ (.tail _ (.tail _ (.head _))))))))))), List.forall_mem_cons.mpr ⟨.tail _ (.tail _ (.tail _ (.tail _ (.tail _ (.tail _ (.tail _ (.tail _ (.tail _ (.tail _ (.tail _ (.tail _ (.head _)))))))))))), List.forall_mem_cons.mpr ⟨.tail _ (.tail _ (.tail _ (.tail _ (.tail _ (.tail _ (.tail _ (.tail _ (.tail _ (.tail _ (.tail _ (.tail _ (.tail _ (.head _))))))))))))), List.forall_mem_cons.mpr ⟨.tail _ (.tail _ (.tail _ (.tail _ (.tail _ (.tail _ (.tail _ (.tail _ (.tail _ (.tail _ (.tail _ (.tail _ (.tail _ (.tail _ (.head _)))))))))))))), List.forall_mem_cons.mpr ⟨.tail _ (.tail _ (.tail _ (.tail _ (.tail _ (.tail _ (.tail _ (.tail _ (.tail _ (.tail _ (.tail _ (.tail _ (.tail _ (.tail _ (.tail _ (.head _))))))))))))))), List.forall_mem_cons.mpr ⟨.tail _ (.tail _ (.tail _ (.tail _ (.tail _ (.tail _ (.tail _ (.tail _ (.tail _ (.tail _ (.tail _ (.tail _ (.tail _ (.tail _ (.tail _ (.tail _ (.head _)))))))))))))))), fun _ h => nomatch h⟩⟩⟩⟩⟩⟩⟩⟩⟩⟩⟩⟩⟩⟩⟩⟩⟩)) T hdp hun hI1 (by rw [takenOf, List.length_take]; omega) hp (by omega) (fun k hk => (htk k hk).1) d5 d81 (fun k hk => (htk k hk).2) ?_)
  intro h6 tk6 D3 w3 k3 F6 N6 hI3 hne3
  replace hI3 : IntsAre w3 (gsOf xs v (r v)) := hI3
  have s3 : Sep L D3 := ⟨Ne.symm (hne3 _ (.tail _ (.tail _ (.head _)))), Ne.symm (hne3 _ (.tail _ (.tail _ (.tail _ (.tail _ (.tail _ (.tail _ (.tail _ (.tail _ (.tail _ (.tail _ (.tail _ (.tail _ (.tail _ (.tail _ (.tail _ (.head _))))))))))))))))), Ne.symm (hne3 _ (.tail _ (.tail _ (.tail _ (.tail _ (.tail _ (.tail _ (.tail _ (.tail _ (.head _)))))))))), Ne.symm (hne3 _ (.tail _ (.tail _ (.tail _ (.head _))))), Ne.symm (hne3 _ (.tail _ (.tail _ (.tail _ (.tail _ (.tail _ (.tail _ (.tail _ (.tail _ (.tail _ (.head _))))))))))), Ne.symm (hne3 _ (.tail _ (.tail _ (.tail _ (.tail _ (.tail _ (.tail _ (.tail _ (.tail _ (.tail _ (.tail _ (.tail _ (.tail _ (.tail _ (.tail _ (.tail _ (.tail _ (.head _))))))))))))))))))⟩
  clear N9 F9
  have N9 := N6
  have F9 := Fr_ex4 (x := Str.ofString "lacking") (y := Str.ofString "count") (z := Str.ofString "waiting") (u := Str.ofString "can") F6 (by rfl) hm1 hm2 hm3
  clear N6 F6
  have hlk := S.lack hv
  refine next_cons (S_if6 _ _ _ _ _ _ _ _ _ _ _ _ _ _ _ _ _ _ _ D3 w3 k3 (gsOf xs v (r v)) D0 w0 k0 (lineOf xs v) p ps pn xs D2 av ak (zsOf n ws xs r pp ei v) wd wv wn ws o3 o5 o91 (r v : Int) tc can B F9 KX (News.part (l' := (D3, listOf (List.toArray w3) k3) :: (D0, listOf (List.toArray w0) k0) :: (p, listOf ps.toArray pn) :: (D2, listOf av.toArray ak) :: (wd, listOf wv.toArray wn) :: (L+3, o3) :: (L+5, o5) :: (L+9, o91) :: (D1, listOf (List.toArray w1) k1) :: (L+8, o81) :: (L+1, o1) :: (L+7, o7) :: (I, oI) :: (f, listOf fv.toArray fn) :: (ed, listOf ev.toArray en) :: (L+4, o4) :: (L+6, o6) :: (L+10, o10) :: []) N9 (List.forall_mem_cons.mpr ⟨.head _, List.forall_mem_cons.mpr ⟨.tail _ (.tail _ (.tail _ (.tail _ (.tail _ (.tail _ (.tail _ (.tail _ (.tail _ (.tail _ (.tail _ (.head _))))))))))), List.forall_mem_cons.mpr ⟨.tail _ (.tail _ (.head _)), List.forall_mem_cons.mpr ⟨.tail _ (.tail _ (.tail _ (.tail _ (.tail _ (.head _))))), List.forall_mem_cons.mpr ⟨.tail _ (.tail _ (.tail _ (.tail _ (.tail _ (.tail _ (.head _)))))), List.forall_mem_cons.mpr ⟨.tail _ (.tail _ (.tail _ (.tail _ (.tail _ (.tail _ (.tail _ (.tail _ (.head _)))))))), List.forall_mem_cons.mpr ⟨.tail _ (.tail _ (.tail _ (.head _))), List.forall_mem_cons.mpr ⟨.tail _ (.tail _ (.tail _ (.tail _ (.tail _ (.tail _ (.tail _ (.tail _ (.tail _ (.tail _ (.head _)))))))))), List.forall_mem_cons.mpr ⟨.tail _ (.head _), List.forall_mem_cons.mpr ⟨.tail _ (.tail _ (.tail _ (.tail _ (.head _)))), List.forall_mem_cons.mpr ⟨.tail _ (.tail _ (.tail _ (.tail _ (.tail _ (.tail _ (.tail _ (.head _))))))), List.forall_mem_cons.mpr ⟨.tail _ (.tail _ (.tail _ (.tail _ (.tail _ (.tail _ (.tail _ (.tail _ (.tail _ (.head _))))))))), List.forall_mem_cons.mpr ⟨.tail _ (.tail _ (.tail _ (.tail _ (.tail _ (.tail _ (.tail _ (.tail _ (.tail _ (.tail _ (.tail _ (.tail _ (.head _)))))))))))), List.forall_mem_cons.mpr ⟨.tail _ (.tail _ (.tail _ (.tail _ (.tail _ (.tail _ (.tail _ (.tail _ (.tail _ (.tail _ (.tail _ (.tail _ (.tail _ (.head _))))))))))))), List.forall_mem_cons.mpr ⟨.tail _ (.tail _ (.tail _ (.tail _ (.tail _ (.tail _ (.tail _ (.tail _ (.tail _ (.tail _ (.tail _ (.tail _ (.tail _ (.tail _ (.head _)))))))))))))), List.forall_mem_cons.mpr ⟨.tail _ (.tail _ (.tail _ (.tail _ (.tail _ (.tail _ (.tail _ (.tail _ (.tail _ (.tail _ (.tail _ (.tail _ (.tail _ (.tail _ (.tail _ (.head _))))))))))))))), List.forall_mem_cons.mpr ⟨.tail _ (.tail _ (.tail _ (.tail _ (.tail _ (.tail _ (.tail _ (.tail _ (.tail _ (.tail _ (.tail _ (.tail _ (.tail _ (.tail _ (.tail _ (.tail _ (.head _)))))))))))))))), List.forall_mem_cons.mpr ⟨.tail _ (.tail _ (.tail _ (.tail _ (.tail _ (.tail _ (.tail _ (.tail _ (.tail _ (.tail _ (.tail _ (.tail _ (.tail _ (.tail _ (.tail _ (.tail _ (.tail _ (.head _))))))))))))))))), fun _ h => nomatch h⟩⟩⟩⟩⟩⟩⟩⟩⟩⟩⟩⟩⟩⟩⟩⟩⟩⟩)) T hdp hun hI3 S.gs_len hI0 (by omega) hp (by omega) hav (by rw [zs_len]; omega) hw (by omega) (by omega) d3 d5 d91 (fun u hu => (hlk u hu).1) (fun u hu => (hlk u hu).2.1) (fun u hu => (hlk u hu).2.2.1) (fun u hu => (hlk u hu).2.2.2) ?_)
  refine ⟨?_, fun hbad h tk m hF => ?_⟩
  rotate_left
  · have hcf := S.fails hv hbad
    subst hcf
    exact hQ.2 h tk m hF
  intro hgs hcl h7 tk7 F7 N7
  have hc : r v ≤ (lineOf xs v).length := by omega
  have hr := S.gs_nil hgs
  clear N9 F9
  have N9 := N7
  have F9 := F7
  clear N7 F7
  have hmi : 0 ≤ miOf xs v (r v) ∧ miOf xs v (r v) < 64 := by
    obtain ⟨j, b1, _, _, b4⟩ := S.mi hv (c := r v)
    rw [b1]
    omega
  refine next_cons (S_mine _ _ _ _ _ _ _ _ _ _ _ _ _ _ _ _ _ _ _ D1 w1 k1 (takenOf xs v (r v)) o81 o10 v10 B F9 KX (News.part (l' := (D1, listOf (List.toArray w1) k1) :: (L+8, o81) :: (L+10, o10) :: (D3, listOf (List.toArray w3) k3) :: (D0, listOf (List.toArray w0) k0) :: (p, listOf ps.toArray pn) :: (D2, listOf av.toArray ak) :: (wd, listOf wv.toArray wn) :: (L+3, o3) :: (L+5, o5) :: (L+9, o91) :: (L+1, o1) :: (L+7, o7) :: (I, oI) :: (f, listOf fv.toArray fn) :: (ed, listOf ev.toArray en) :: (L+4, o4) :: (L+6, o6) :: []) N9 (List.forall_mem_cons.mpr ⟨.tail _ (.tail _ (.tail _ (.tail _ (.tail _ (.tail _ (.tail _ (.tail _ (.head _)))))))), List.forall_mem_cons.mpr ⟨.tail _ (.tail _ (.tail _ (.tail _ (.tail _ (.tail _ (.tail _ (.tail _ (.tail _ (.head _))))))))), List.forall_mem_cons.mpr ⟨.tail _ (.tail _ (.tail _ (.tail _ (.tail _ (.tail _ (.tail _ (.tail _ (.tail _ (.tail _ (.tail _ (.tail _ (.tail _ (.tail _ (.tail _ (.tail _ (.tail _ (.head _))))))))))))))))), List.forall_mem_cons.mpr ⟨.head _, List.forall_mem_cons.mpr ⟨.tail _ (.head _), List.forall_mem_cons.mpr ⟨.tail _ (.tail _ (.head _)), List.forall_mem_cons.mpr ⟨.tail _ (.tail _ (.tail _ (.head _))), List.forall_mem_cons.mpr ⟨.tail _ (.tail _ (.tail _ (.tail _ (.head _)))), List.forall_mem_cons.mpr ⟨.tail _ (.tail _ (.tail _ (.tail _ (.tail _ (.head _))))), List.forall_mem_cons.mpr ⟨.tail _ (.tail _ (.tail _ (.tail _ (.tail _ (.tail _ (.head _)))))), List.forall_mem_cons.mpr ⟨.tail _ (.tail _ (.tail _ (.tail _ (.tail _ (.tail _ (.tail _ (.head _))))))), List.forall_mem_cons.mpr ⟨.tail _ (.tail _ (.tail _ (.tail _ (.tail _ (.tail _ (.tail _ (.tail _ (.tail _ (.tail _ (.head _)))))))))), List.forall_mem_cons.mpr ⟨.tail _ (.tail _ (.tail _ (.tail _ (.tail _ (.tail _ (.tail _ (.tail _ (.tail _ (.tail _ (.tail _ (.head _))))))))))), List.forall_mem_cons.mpr ⟨.tail _ (.tail _ (.tail _ (.tail _ (.tail _ (.tail _ (.tail _ (.tail _ (.tail _ (.tail _ (.tail _ (.tail _ (.head _)))))))))))), List.forall_mem_cons.mpr ⟨.tail _ (.tail _ (.tail _ (.tail _ (.tail _ (.tail _ (.tail _ (.tail _ (.tail _ (.tail _ (.tail _ (.tail _ (.tail _ (.head _))))))))))))), List.forall_mem_cons.mpr ⟨.tail _ (.tail _ (.tail _ (.tail _ (.tail _ (.tail _ (.tail _ (.tail _ (.tail _ (.tail _ (.tail _ (.tail _ (.tail _ (.tail _ (.head _)))))))))))))), List.forall_mem_cons.mpr ⟨.tail _ (.tail _ (.tail _ (.tail _ (.tail _ (.tail _ (.tail _ (.tail _ (.tail _ (.tail _ (.tail _ (.tail _ (.tail _ (.tail _ (.tail _ (.head _))))))))))))))), List.forall_mem_cons.mpr ⟨.tail _ (.tail _ (.tail _ (.tail _ (.tail _ (.tail _ (.tail _ (.tail _ (.tail _ (.tail _ (.tail _ (.tail _ (.tail _ (.tail _ (.tail _ (.tail _ (.head _)))))))))))))))), fun _ h => nomatch h⟩⟩⟩⟩⟩⟩⟩⟩⟩⟩⟩⟩⟩⟩⟩⟩⟩⟩)) T hdp hun hI1 (by rw [takenOf, List.length_take]; omega) (fun k hk => by have := (htk k hk).1; omega) d81 d10 s1.c10 (List.forall_mem_cons.mpr ⟨s3.c10, List.forall_mem_cons.mpr ⟨s0.c10, List.forall_mem_cons.mpr ⟨sp.c10, List.forall_mem_cons.mpr ⟨s2.c10, List.forall_mem_cons.mpr ⟨sw.c10, List.forall_mem_cons.mpr ⟨cell_ne (by decide), List.forall_mem_cons.mpr ⟨cell_ne (by decide), List.forall_mem_cons.mpr ⟨cell_ne (by decide), List.forall_mem_cons.mpr ⟨cell_ne (by decide), List.forall_mem_cons.mpr ⟨cell_ne (by decide), List.forall_mem_cons.mpr ⟨sI.c10, List.forall_mem_cons.mpr ⟨sf.c10, List.forall_mem_cons.mpr ⟨se.c10, List.forall_mem_cons.mpr ⟨cell_ne (by decide), List.forall_mem_cons.mpr ⟨cell_ne (by decide), fun _ h => nomatch h⟩⟩⟩⟩⟩⟩⟩⟩⟩⟩⟩⟩⟩⟩⟩) ?_)
  intro h8 tk8 tm o101 F8 N8 d101
  replace d101 : o101.data = .cell (some (.int (miOf xs v (r v)) tm)) := d101
  clear N9 F9
  have N9 := N8
  have F9 := F8
  clear N8 F8
  have hfb : ∀ k : Int, 0 ≤ k → k < (n : Int) → 0 ≤ fs.getD k.toNat 0 ∧ fs.getD k.toNat 0 < 64 := fun k h0 h1 => by
    rcases Nat.lt_or_ge k.toNat v with q | q
    · exact (S.lo _ q (by omega)).2
    · obtain ⟨_, _, _, m, e1, e2, _⟩ := S.hi k.toNat q (by omega)
      have h6 : v ≤ 6 := by omega
      have : 2 ^ v ≤ 2 ^ 6 := Nat.pow_le_pow_right (by decide) h6
      rw [e1]
      omega
  refine next_cons (S_friends _ _ _ _ _ _ _ _ _ _ _ _ _ _ _ _ _ _ _ f fv fn fs D1 w1 k1 (takenOf xs v (r v)) o1 o6 o7 o81 o101 (n : Int) (v : Int) (miOf xs v (r v)) tn tv tm B F9 KX (News.part (l' := (f, listOf fv.toArray fn) :: (D1, listOf (List.toArray w1) k1) :: (L+1, o1) :: (L+7, o7) :: (L+8, o81) :: (L+10, o101) :: (L+6, o6) :: (D3, listOf (List.toArray w3) k3) :: (D0, listOf (List.toArray w0) k0) :: (p, listOf ps.toArray pn) :: (D2, listOf av.toArray ak) :: (wd, listOf wv.toArray wn) :: (L+3, o3) :: (L+5, o5) :: (L+9, o91) :: (I, oI) :: (ed, listOf ev.toArray en) :: (L+4, o4) :: []) N9 (List.forall_mem_cons.mpr ⟨.tail _ (.tail _ (.tail _ (.tail _ (.tail _ (.tail _ (.tail _ (.tail _ (.tail _ (.tail _ (.tail _ (.tail _ (.tail _ (.tail _ (.head _)))))))))))))), List.forall_mem_cons.mpr ⟨.head _, List.forall_mem_cons.mpr ⟨.tail _ (.tail _ (.tail _ (.tail _ (.tail _ (.tail _ (.tail _ (.tail _ (.tail _ (.tail _ (.tail _ (.head _))))))))))), List.forall_mem_cons.mpr ⟨.tail _ (.tail _ (.tail _ (.tail _ (.tail _ (.tail _ (.tail _ (.tail _ (.tail _ (.tail _ (.tail _ (.tail _ (.head _)))))))))))), List.forall_mem_cons.mpr ⟨.tail _ (.head _), List.forall_mem_cons.mpr ⟨.tail _ (.tail _ (.head _)), List.forall_mem_cons.mpr ⟨.tail _ (.tail _ (.tail _ (.tail _ (.tail _ (.tail _ (.tail _ (.tail _ (.tail _ (.tail _ (.tail _ (.tail _ (.tail _ (.tail _ (.tail _ (.tail _ (.tail _ (.head _))))))))))))))))), List.forall_mem_cons.mpr ⟨.tail _ (.tail _ (.tail _ (.head _))), List.forall_mem_cons.mpr ⟨.tail _ (.tail _ (.tail _ (.tail _ (.head _)))), List.forall_mem_cons.mpr ⟨.tail _ (.tail _ (.tail _ (.tail _ (.tail _ (.head _))))), List.forall_mem_cons.mpr ⟨.tail _ (.tail _ (.tail _ (.tail _ (.tail _ (.tail _ (.head _)))))), List.forall_mem_cons.mpr ⟨.tail _ (.tail _ (.tail _ (.tail _ (.tail _ (.tail _ (.tail _ (.head _))))))), List.forall_mem_cons.mpr ⟨.tail _ (.tail _ (.tail _ (.tail _ (.tail _ (.tail _ (.tail _ (.tail _ (.head _)))))))), List.forall_mem_cons.mpr ⟨.tail _ (.tail _ (.tail _ (.tail _ (.tail _ (.tail _ (.tail _ (.tail _ (.tail _ (.head _))))))))), List.forall_mem_cons.mpr ⟨.tail _ (.tail _ (.tail _ (.tail _ (.tail _ (.tail _ (.tail _ (.tail _ (.tail _ (.tail _ (.head _)))))))))), List.forall_mem_cons.mpr ⟨.tail _ (.tail _ (.tail _ (.tail _ (.tail _ (.tail _ (.tail _ (.tail _ (.tail _ (.tail _ (.tail _ (.tail _ (.tail _ (.head _))))))))))))), List.forall_mem_cons.mpr ⟨.tail _ (.tail _ (.tail _ (.tail _ (.tail _ (.tail _ (.tail _ (.tail _ (.tail _ (.tail _ (.tail _ (.tail _ (.tail _ (.tail _ (.tail _ (.head _))))))))))))))), List.forall_mem_cons.mpr ⟨.tail _ (.tail _ (.tail _ (.tail _ (.tail _ (.tail _ (.tail _ (.tail _ (.tail _ (.tail _ (.tail _ (.tail _ (.tail _ (.tail _ (.tail _ (.tail _ (.head _)))))))))))))))), fun _ h => nomatch h⟩⟩⟩⟩⟩⟩⟩⟩⟩⟩⟩⟩⟩⟩⟩⟩⟩⟩)) T hdp hun hf (by omega) (by omega) hI1 (by rw [takenOf, List.length_take]; omega) (by omega) hfb hmi d1 d6 d7 d81 d101 sf.c6 s1.c6 (List.forall_mem_cons.mpr ⟨s3.c6, List.forall_mem_cons.mpr ⟨s0.c6, List.forall_mem_cons.mpr ⟨sp.c6, List.forall_mem_cons.mpr ⟨s2.c6, List.forall_mem_cons.mpr ⟨sw.c6, List.forall_mem_cons.mpr ⟨cell_ne (by decide), List.forall_mem_cons.mpr ⟨cell_ne (by decide), List.forall_mem_cons.mpr ⟨cell_ne (by decide), List.forall_mem_cons.mpr ⟨sI.c6, List.forall_mem_cons.mpr ⟨se.c6, List.forall_mem_cons.mpr ⟨cell_ne (by decide), fun _ h => nomatch h⟩⟩⟩⟩⟩⟩⟩⟩⟩⟩⟩) ?_)
  intro h9 tk9 D4 w4 k4 o61 F10 N10 hI4 d61 hne4
  replace hI4 : IntsAre w4 (fsOf n xs fs v (r v)) := hI4
  have s4 : Sep L D4 := ⟨Ne.symm (hne4 _ (.tail _ (.tail _ (.tail _ (.tail _ (.tail _ (.tail _ (.tail _ (.tail _ (.tail _ (.tail _ (.tail _ (.tail _ (.tail _ (.head _))))))))))))))), Ne.symm (hne4 _ (.tail _ (.tail _ (.tail _ (.tail _ (.tail _ (.tail _ (.head _)))))))), Ne.symm (hne4 _ (.tail _ (.tail _ (.tail _ (.head _))))), Ne.symm (hne4 _ (.tail _ (.tail _ (.tail _ (.tail _ (.head _)))))), Ne.symm (hne4 _ (.tail _ (.tail _ (.tail _ (.tail _ (.tail _ (.tail _ (.tail _ (.tail _ (.tail _ (.tail _ (.tail _ (.tail _ (.tail _ (.tail _ (.head _)))))))))))))))), Ne.symm (hne4 _ (.tail _ (.tail _ (.tail _ (.tail _ (.tail _ (.head _)))))))⟩
  have i4 : D4 ≠ I := Ne.symm (hne4 (I, oI) (.tail _ (.tail _ (.tail _ (.tail _ (.tail _ (.tail _ (.tail _ (.tail _ (.tail _ (.tail _ (.tail _ (.tail _ (.tail _ (.tail _ (.tail _ (.head _)))))))))))))))))
  clear N9 F9
  have N9 := N10
  have F9 := F10
  clear N10 F10
  refine next_cons (S_post _ _ _ _ _ _ _ _ _ _ _ _ _ _ _ _ _ _ _ D2 p o5 o91 _ B F9 KX (News.part (l' := (L+9, o91) :: (L+5, o5) :: (D4, listOf (List.toArray w4) k4) :: (f, listOf fv.toArray fn) :: (D1, listOf (List.toArray w1) k1) :: (L+1, o1) :: (L+7, o7) :: (L+8, o81) :: (L+10, o101) :: (L+6, o61) :: (D3, listOf (List.toArray w3) k3) :: (D0, listOf (List.toArray w0) k0) :: (p, listOf ps.toArray pn) :: (D2, listOf av.toArray ak) :: (wd, listOf wv.toArray wn) :: (L+3, o3) :: (I, oI) :: (ed, listOf ev.toArray en) :: (L+4, o4) :: []) N9 (List.forall_mem_cons.mpr ⟨.tail _ (.tail _ (.tail _ (.tail _ (.tail _ (.tail _ (.tail _ (.tail _ (.tail _ (.tail _ (.tail _ (.tail _ (.tail _ (.tail _ (.tail _ (.head _))))))))))))))), List.forall_mem_cons.mpr ⟨.tail _ (.tail _ (.tail _ (.tail _ (.tail _ (.tail _ (.tail _ (.tail _ (.tail _ (.tail _ (.tail _ (.tail _ (.tail _ (.tail _ (.head _)))))))))))))), List.forall_mem_cons.mpr ⟨.head _, List.forall_mem_cons.mpr ⟨.tail _ (.head _), List.forall_mem_cons.mpr ⟨.tail _ (.tail _ (.head _)), List.forall_mem_cons.mpr ⟨.tail _ (.tail _ (.tail _ (.head _))), List.forall_mem_cons.mpr ⟨.tail _ (.tail _ (.tail _ (.tail _ (.head _)))), List.forall_mem_cons.mpr ⟨.tail _ (.tail _ (.tail _ (.tail _ (.tail _ (.head _))))), List.forall_mem_cons.mpr ⟨.tail _ (.tail _ (.tail _ (.tail _ (.tail _ (.tail _ (.head _)))))), List.forall_mem_cons.mpr ⟨.tail _ (.tail _ (.tail _ (.tail _ (.tail _ (.tail _ (.tail _ (.head _))))))), List.forall_mem_cons.mpr ⟨.tail _ (.tail _ (.tail _ (.tail _ (.tail _ (.tail _ (.tail _ (.tail _ (.head _)))))))), List.forall_mem_cons.mpr ⟨.tail _ (.tail _ (.tail _ (.tail _ (.tail _ (.tail _ (.tail _ (.tail _ (.tail _ (.head _))))))))), List.forall_mem_cons.mpr ⟨.tail _ (.tail _ (.tail _ (.tail _ (.tail _ (.tail _ (.tail _ (.tail _ (.tail _ (.tail _ (.head _)))))))))), List.forall_mem_cons.mpr ⟨.tail _ (.tail _ (.tail _ (.tail _ (.tail _ (.tail _ (.tail _ (.tail _ (.tail _ (.tail _ (.tail _ (.head _))))))))))), List.forall_mem_cons.mpr ⟨.tail _ (.tail _ (.tail _ (.tail _ (.tail _ (.tail _ (.tail _ (.tail _ (.tail _ (.tail _ (.tail _ (.tail _ (.head _)))))))))))), List.forall_mem_cons.mpr ⟨.tail _ (.tail _ (.tail _ (.tail _ (.tail _ (.tail _ (.tail _ (.tail _ (.tail _ (.tail _ (.tail _ (.tail _ (.tail _ (.head _))))))))))))), List.forall_mem_cons.mpr ⟨.tail _ (.tail _ (.tail _ (.tail _ (.tail _ (.tail _ (.tail _ (.tail _ (.tail _ (.tail _ (.tail _ (.tail _ (.tail _ (.tail _ (.tail _ (.tail _ (.head _)))))))))))))))), List.forall_mem_cons.mpr ⟨.tail _ (.tail _ (.tail _ (.tail _ (.tail _ (.tail _ (.tail _ (.tail _ (.tail _ (.tail _ (.tail _ (.tail _ (.tail _ (.tail _ (.tail _ (.tail _ (.tail _ (.head _))))))))))))))))), List.forall_mem_cons.mpr ⟨.tail _ (.tail _ (.tail _ (.tail _ (.tail _ (.tail _ (.tail _ (.tail _ (.tail _ (.tail _ (.tail _ (.tail _ (.tail _ (.tail _ (.tail _ (.tail _ (.tail _ (.tail _ (.head _)))))))))))))))))), fun _ h => nomatch h⟩⟩⟩⟩⟩⟩⟩⟩⟩⟩⟩⟩⟩⟩⟩⟩⟩⟩⟩)) T hdp hun d91 d5 (List.forall_mem_cons.mpr ⟨s4.c5, List.forall_mem_cons.mpr ⟨sf.c5, List.forall_mem_cons.mpr ⟨s1.c5, List.forall_mem_cons.mpr ⟨cell_ne (by decide), List.forall_mem_cons.mpr ⟨cell_ne (by decide), List.forall_mem_cons.mpr ⟨cell_ne (by decide), List.forall_mem_cons.mpr ⟨cell_ne (by decide), List.forall_mem_cons.mpr ⟨cell_ne (by decide), List.forall_mem_cons.mpr ⟨s3.c5, List.forall_mem_cons.mpr ⟨s0.c5, List.forall_mem_cons.mpr ⟨sp.c5, List.forall_mem_cons.mpr ⟨s2.c5, List.forall_mem_cons.mpr ⟨sw.c5, List.forall_mem_cons.mpr ⟨cell_ne (by decide), List.forall_mem_cons.mpr ⟨sI.c5, List.forall_mem_cons.mpr ⟨se.c5, List.forall_mem_cons.mpr ⟨cell_ne (by decide), fun _ h => nomatch h⟩⟩⟩⟩⟩⟩⟩⟩⟩⟩⟩⟩⟩⟩⟩⟩⟩) ?_)
  intro h10 tk10 o51 F11 N11 d51
  clear N9 F9
  have N9 := N11
  have F9 := Fr_ex1 (x := Str.ofString "can") F11 (by rfl)
  clear N11 F11
  refine next_cons (S_for10 _ _ _ _ _ _ _ _ _ _ _ _ _ _ _ _ _ _ _ D1 w1 k1 (takenOf xs v (r v)) D2 av ak (zsOf n ws xs r pp ei v) wd wv wn ws ed ev en es D4 w4 k4 (fsOf n xs fs v (r v)) o1 o3 o4 o51 o61 o7 o81 (n : Int) (v : Int) tn tv can B F9 KX (News.part (l' := (D1, listOf (List.toArray w1) k1) :: (D2, listOf av.toArray ak) :: (wd, listOf wv.toArray wn) :: (ed, listOf ev.toArray en) :: (D4, listOf (List.toArray w4) k4) :: (L+1, o1) :: (L+3, o3) :: (L+4, o4) :: (L+5, o51) :: (L+6, o61) :: (L+7, o7) :: (L+8, o81) :: (L+9, o91) :: (f, listOf fv.toArray fn) :: (L+10, o101) :: (D3, listOf (List.toArray w3) k3) :: (D0, listOf (List.toArray w0) k0) :: (p, listOf ps.toArray pn) :: (I, oI) :: []) N9 (List.forall_mem_cons.mpr ⟨.tail _ (.tail _ (.tail _ (.tail _ (.head _)))), List.forall_mem_cons.mpr ⟨.tail _ (.tail _ (.tail _ (.tail _ (.tail _ (.tail _ (.tail _ (.tail _ (.tail _ (.tail _ (.tail _ (.tail _ (.tail _ (.head _))))))))))))), List.forall_mem_cons.mpr ⟨.tail _ (.tail _ (.tail _ (.tail _ (.tail _ (.tail _ (.tail _ (.tail _ (.tail _ (.tail _ (.tail _ (.tail _ (.tail _ (.tail _ (.head _)))))))))))))), List.forall_mem_cons.mpr ⟨.tail _ (.tail _ (.tail _ (.tail _ (.tail _ (.tail _ (.tail _ (.tail _ (.tail _ (.tail _ (.tail _ (.tail _ (.tail _ (.tail _ (.tail _ (.tail _ (.tail _ (.head _))))))))))))))))), List.forall_mem_cons.mpr ⟨.tail _ (.tail _ (.head _)), List.forall_mem_cons.mpr ⟨.tail _ (.tail _ (.tail _ (.tail _ (.tail _ (.head _))))), List.forall_mem_cons.mpr ⟨.tail _ (.tail _ (.tail _ (.tail _ (.tail _ (.tail _ (.tail _ (.tail _ (.tail _ (.tail _ (.tail _ (.tail _ (.tail _ (.tail _ (.tail _ (.head _))))))))))))))), List.forall_mem_cons.mpr ⟨.tail _ (.tail _ (.tail _ (.tail _ (.tail _ (.tail _ (.tail _ (.tail _ (.tail _ (.tail _ (.tail _ (.tail _ (.tail _ (.tail _ (.tail _ (.tail _ (.tail _ (.tail _ (.head _)))))))))))))))))), List.forall_mem_cons.mpr ⟨.tail _ (.head _), List.forall_mem_cons.mpr ⟨.tail _ (.tail _ (.tail _ (.tail _ (.tail _ (.tail _ (.tail _ (.tail _ (.tail _ (.head _))))))))), List.forall_mem_cons.mpr ⟨.tail _ (.tail _ (.tail _ (.tail _ (.tail _ (.tail _ (.head _)))))), List.forall_mem_cons.mpr ⟨.tail _ (.tail _ (.tail _ (.tail _ (.tail _ (.tail _ (.tail _ (.head _))))))), List.forall_mem_cons.mpr ⟨.head _, List.forall_mem_cons.mpr ⟨.tail _ (.tail _ (.tail _ (.head _))), List.forall_mem_cons.mpr ⟨.tail _ (.tail _ (.tail _ (.tail _ (.tail _ (.tail _ (.tail _ (.tail _ (.head _)))))))), List.forall_mem_cons.mpr ⟨.tail _ (.tail _ (.tail _ (.tail _ (.tail _ (.tail _ (.tail _ (.tail _ (.tail _ (.tail _ (.head _)))))))))), List.forall_mem_cons.mpr ⟨.tail _ (.tail _ (.tail _ (.tail _ (.tail _ (.tail _ (.tail _ (.tail _ (.tail _ (.tail _ (.tail _ (.head _))))))))))), List.forall_mem_cons.mpr ⟨.tail _ (.tail _ (.tail _ (.tail _ (.tail _ (.tail _ (.tail _ (.tail _ (.tail _ (.tail _ (.tail _ (.tail _ (.head _)))))))))))), List.forall_mem_cons.mpr ⟨.tail _ (.tail _ (.tail _ (.tail _ (.tail _ (.tail _ (.tail _ (.tail _ (.tail _ (.tail _ (.tail _ (.tail _ (.tail _ (.tail _ (.tail _ (.tail _ (.head _)))))))))))))))), fun _ h => nomatch h⟩⟩⟩⟩⟩⟩⟩⟩⟩⟩⟩⟩⟩⟩⟩⟩⟩⟩⟩)) T hdp hun hI1 (by rw [takenOf, List.length_take]; omega) hav (by rw [zs_len]) hw (by omega) he (by omega) hI4 (by rw [fs_len]) (by omega) (by omega) d1 d3 d4 d51 d61 d7 d81 hE (S.told hv hc hr) ?_)
  intro h11 tk11 m11 hmc F12 N12
  clear N9 F9
  have N9 := N12
  have F9 := Fr_ex1 (x := Str.ofString "can") F12 hmc
  clear N12 F12
  have SN := S.next hv hc hr
  have hlft := SN.left
  refine next_cons (S_if11 _ _ _ _ _ _ _ _ _ _ _ _ _ _ _ _ _ _ _ D2 av ak (zsOf n ws xs r pp ei v) o1 o51 o7 (n : Int) (v : Int) tn tv can B F9 KX (News.part (l' := (D2, listOf av.toArray ak) :: (L+1, o1) :: (L+5, o51) :: (L+7, o7) :: (D1, listOf (List.toArray w1) k1) :: (wd, listOf wv.toArray wn) :: (ed, listOf ev.toArray en) :: (D4, listOf (List.toArray w4) k4) :: (L+3, o3) :: (L+4, o4) :: (L+6, o61) :: (L+8, o81) :: (L+9, o91) :: (f, listOf fv.toArray fn) :: (L+10, o101) :: (D3, listOf (List.toArray w3) k3) :: (D0, listOf (List.toArray w0) k0) :: (p, listOf ps.toArray pn) :: (I, oI) :: []) N9 (List.forall_mem_cons.mpr ⟨.tail _ (.head _), List.forall_mem_cons.mpr ⟨.tail _ (.tail _ (.tail _ (.tail _ (.tail _ (.head _))))), List.forall_mem_cons.mpr ⟨.tail _ (.tail _ (.tail _ (.tail _ (.tail _ (.tail _ (.tail _ (.tail _ (.head _)))))))), List.forall_mem_cons.mpr ⟨.tail _ (.tail _ (.tail _ (.tail _ (.tail _ (.tail _ (.tail _ (.tail _ (.tail _ (.tail _ (.head _)))))))))), List.forall_mem_cons.mpr ⟨.head _, List.forall_mem_cons.mpr ⟨.tail _ (.tail _ (.head _)), List.forall_mem_cons.mpr ⟨.tail _ (.tail _ (.tail _ (.head _))), List.forall_mem_cons.mpr ⟨.tail _ (.tail _ (.tail _ (.tail _ (.head _)))), List.forall_mem_cons.mpr ⟨.tail _ (.tail _ (.tail _ (.tail _ (.tail _ (.tail _ (.head _)))))), List.forall_mem_cons.mpr ⟨.tail _ (.tail _ (.tail _ (.tail _ (.tail _ (.tail _ (.tail _ (.head _))))))), List.forall_mem_cons.mpr ⟨.tail _ (.tail _ (.tail _ (.tail _ (.tail _ (.tail _ (.tail _ (.tail _ (.tail _ (.head _))))))))), List.forall_mem_cons.mpr ⟨.tail _ (.tail _ (.tail _ (.tail _ (.tail _ (.tail _ (.tail _ (.tail _ (.tail _ (.tail _ (.tail _ (.head _))))))))))), List.forall_mem_cons.mpr ⟨.tail _ (.tail _ (.tail _ (.tail _ (.tail _ (.tail _ (.tail _ (.tail _ (.tail _ (.tail _ (.tail _ (.tail _ (.head _)))))))))))), List.forall_mem_cons.mpr ⟨.tail _ (.tail _ (.tail _ (.tail _ (.tail _ (.tail _ (.tail _ (.tail _ (.tail _ (.tail _ (.tail _ (.tail _ (.tail _ (.head _))))))))))))), List.forall_mem_cons.mpr ⟨.tail _ (.tail _ (.tail _ (.tail _ (.tail _ (.tail _ (.tail _ (.tail _ (.tail _ (.tail _ (.tail _ (.tail _ (.tail _ (.tail _ (.head _)))))))))))))), List.forall_mem_cons.mpr ⟨.tail _ (.tail _ (.tail _ (.tail _ (.tail _ (.tail _ (.tail _ (.tail _ (.tail _ (.tail _ (.tail _ (.tail _ (.tail _ (.tail _ (.tail _ (.head _))))))))))))))), List.forall_mem_cons.mpr ⟨.tail _ (.tail _ (.tail _ (.tail _ (.tail _ (.tail _ (.tail _ (.tail _ (.tail _ (.tail _ (.tail _ (.tail _ (.tail _ (.tail _ (.tail _ (.tail _ (.head _)))))))))))))))), List.forall_mem_cons.mpr ⟨.tail _ (.tail _ (.tail _ (.tail _ (.tail _ (.tail _ (.tail _ (.tail _ (.tail _ (.tail _ (.tail _ (.tail _ (.tail _ (.tail _ (.tail _ (.tail _ (.tail _ (.head _))))))))))))))))), List.forall_mem_cons.mpr ⟨.tail _ (.tail _ (.tail _ (.tail _ (.tail _ (.tail _ (.tail _ (.tail _ (.tail _ (.tail _ (.tail _ (.tail _ (.tail _ (.tail _ (.tail _ (.tail _ (.tail _ (.tail _ (.head _)))))))))))))))))), fun _ h => nomatch h⟩⟩⟩⟩⟩⟩⟩⟩⟩⟩⟩⟩⟩⟩⟩⟩⟩⟩⟩)) T hdp hun hav (by rw [zs_len]) (by omega) (by omega) d1 d51 d7 (fun u h1 h2 => hlft.1 u (by omega) h2) (fun d hd hs => hlft.2 d hd hs) ?_)
  intro h12 tk12 F13 N13
  refine wpAny_execs_nil ?_
  exact hQ.1 _ _ _ D2 av ak D4 w4 k4 o51 o61 o81 o91 o101 _ _ _ _ _ _ _ (by rfl) F13 (News.part (l' := (I, oI) :: (D2, listOf av.toArray ak) :: (D4, listOf (List.toArray w4) k4) :: (wd, listOf wv.toArray wn) :: (ed, listOf ev.toArray en) :: (L+1, o1) :: (L+3, o3) :: (L+4, o4) :: (L+5, o51) :: (L+6, o61) :: (L+7, o7) :: (L+8, o81) :: (L+9, o91) :: (L+10, o101) :: []) N13 (List.forall_mem_cons.mpr ⟨.tail _ (.tail _ (.tail _ (.tail _ (.tail _ (.tail _ (.tail _ (.tail _ (.tail _ (.tail _ (.tail _ (.tail _ (.tail _ (.tail _ (.tail _ (.tail _ (.tail _ (.tail _ (.head _)))))))))))))))))), List.forall_mem_cons.mpr ⟨.head _, List.forall_mem_cons.mpr ⟨.tail _ (.tail _ (.tail _ (.tail _ (.tail _ (.tail _ (.tail _ (.head _))))))), List.forall_mem_cons.mpr ⟨.tail _ (.tail _ (.tail _ (.tail _ (.tail _ (.head _))))), List.forall_mem_cons.mpr ⟨.tail _ (.tail _ (.tail _ (.tail _ (.tail _ (.tail _ (.head _)))))), List.forall_mem_cons.mpr ⟨.tail _ (.head _), List.forall_mem_cons.mpr ⟨.tail _ (.tail _ (.tail _ (.tail _ (.tail _ (.tail _ (.tail _ (.tail _ (.head _)))))))), List.forall_mem_cons.mpr ⟨.tail _ (.tail _ (.tail _ (.tail _ (.tail _ (.tail _ (.tail _ (.tail _ (.tail _ (.head _))))))))), List.forall_mem_cons.mpr ⟨.tail _ (.tail _ (.head _)), List.forall_mem_cons.mpr ⟨.tail _ (.tail _ (.tail _ (.tail _ (.tail _ (.tail _ (.tail _ (.tail _ (.tail _ (.tail _ (.head _)))))))))), List.forall_mem_cons.mpr ⟨.tail _ (.tail _ (.tail _ (.head _))), List.forall_mem_cons.mpr ⟨.tail _ (.tail _ (.tail _ (.tail _ (.tail _ (.tail _ (.tail _ (.tail _ (.tail _ (.tail _ (.tail _ (.head _))))))))))), List.forall_mem_cons.mpr ⟨.tail _ (.tail _ (.tail _ (.tail _ (.tail _ (.tail _ (.tail _ (.tail _ (.tail _ (.tail _ (.tail _ (.tail _ (.head _)))))))))))), List.forall_mem_cons.mpr ⟨.tail _ (.tail _ (.tail _ (.tail _ (.tail _ (.tail _ (.tail _ (.tail _ (.tail _ (.tail _ (.tail _ (.tail _ (.tail _ (.tail _ (.head _)))))))))))))), fun _ h => nomatch h⟩⟩⟩⟩⟩⟩⟩⟩⟩⟩⟩⟩⟩⟩)) hav hI4 d51 d61 d81 d91 d101 s2 s4 i2 i4 SN
end Mine
end
section
open PySem PySem.W PyProof.Rows
set_option maxRecDepth 100000
set_option maxHeartbeats 8000000
namespace Mine
theorem st8_eq : ∃ px pos q1 q2 q3, st 8 = .For (.Name (Str.ofString "v") px) (.Call (.Name (Str.ofString "range") q1) [.Name (Str.ofString "n") q2] [] q3) (forBody (st 8)) [] pos := ⟨_, _, _, _, _, rfl⟩
/-- what holds ahead of the guest i -/
noncomputable def JL (L : Addr) (wd : Addr) (wv : List Value) (wn : Nat) (ed : Addr) (ev : List Value) (en : Nat) (o1 o3 o4 : Obj) (n : Nat) (ws : List Int) (es : List Str) (can : Bool) (ei : Nat → Nat) (i : Nat) (m : Str → Option Value) (nw : List (Addr × Obj)) : Prop :=
  ∃ p ps pn f fv fn o5 o6 o7 o8 o9 o10 v7 v8 v9 v10 xs fs r pp, nw = (p, listOf ps.toArray pn) :: (f, listOf fv.toArray fn) :: (wd, listOf wv.toArray wn) :: (ed, listOf ev.toArray en) :: (L+1, o1) :: (L+3, o3) :: (L+4, o4) :: (L+5, o5) :: (L+6, o6) :: (L+7, o7) :: (L+8, o8) :: (L+9, o9) :: (L+10, o10) :: [] ∧ m (Str.ofString "can") = some (.bool can) ∧ StrsAre ps xs ∧ IntsAre fv fs ∧
    o5.data = .cell (some (.ref p)) ∧ o6.data = .cell (some (.ref f)) ∧ o7.data = .cell v7 ∧ o8.data = .cell v8 ∧ o9.data = .cell v9 ∧ o10.data = .cell v10 ∧ Sep L p ∧ Sep L f ∧ St n i ws es xs fs can r pp ei
theorem S_st8 (w : World) (mean : ExcName → Option Value) (mg mb : Str → Option Value) (dp un : Nat) (gd : Option (List Code)) (L : Addr) (outer : List Env) (A₀ : Around) (base h₀ : Heap) (m₀ : Str → Option Value) (s : Shared) (Q : Flow → Shared → Prop) (E : Value → Shared → Prop) (fa : Addr) (cd : Value)
  (nw : List (Addr × Obj)) (wd : Addr) (wv : List Value) (wn : Nat) (ed : Addr) (ev : List Value) (en : Nat) (o1 o3 o4 : Obj) (n : Nat) (tn : Tok) (ws : List Int) (es : List Str) (can : Bool) (ei : Nat → Nat)
  (B : Below A₀ base outer h₀) (F : Fr h₀ L s.heap m₀) (KX : (Mine.hd.heap_39 w.params).In h₀) (N : News h₀ L s.heap nw)
  (T : Top Mine.hd.view_39 [Str.ofString "_twin_re_1", Str.ofString "_twin_re_2", Str.ofString "_sre"] mean mg mb h₀) (hdp : dp + 16 < recursionLimit) (hun : un + 128 < cLine) (hE : PassesOwn (model PySem.Challenge.rw_wn0018_01.row.prog w) (ktrTop dp un gd (Str.ofString "law") lawScope L fa cd (lawCells L) outer) (envX (Str.ofString "law") lawScope L fa cd (lawCells L)) E)
  (hw : IntsAre wv ws) (he : StrsAre ev es) (d1 : o1.data = .cell (some (.int (n : Int) tn))) (d3 : o3.data = .cell (some (.ref wd))) (d4 : o4.data = .cell (some (.ref ed))) (sw : Sep L wd) (se : Sep L ed)
  (hn : n = 5 ∨ n = 6) (hJ : JL L wd wv wn ed ev en o1 o3 o4 n ws es can ei 0 m₀ nw) (hm1 : (L+1, o1) ∈ nw)
  (hQ : (∀ h tk m nw, Fr h₀ L h m → News h₀ L h nw → JL L wd wv wn ed ev en o1 o3 o4 n ws es can ei n m nw → Q .next { s with heap := h, toks := tk }) ∧ (∀ h tk m, Fr h₀ L h m → Q (.ret (.bool true)) { s with heap := h, toks := tk }))
  : wpAny (model PySem.Challenge.rw_wn0018_01.row.prog w) (ktrTop dp un gd (Str.ofString "law") lawScope L fa cd (lawCells L) outer) (exec (st 8) (envX (Str.ofString "law") lawScope L fa cd (lawCells L))) Q E s := by
  w_on
  revert KX; k_fill; intro KX
  obtain ⟨px, pos, q1, q2, q3, e8⟩ := st8_eq
  rw [e8]
  have hnb : 0 ≤ (n : Int) ∧ (n : Int) ≤ 6 := by omega
  refine ForR (h₀ := h₀) rfl ?_ (hE := hE)
  have hJ0 := hJ
  obtain ⟨p, ps, pn, f, fv, fn, o5, o6, o7, o8, o9, o10, v7, v8, v9, v10, xs, fs, r, pp, rfl, _⟩ := hJ
  k_steps
  refine ⟨_, _, _, _, _, _, n, _, _, fun i m nw => JL L wd wv wn ed ev en o1 o3 o4 n ws es can ei i m nw, rfl, by assumption, ?_, ?_, by assumption, by assumption, hJ0, ?_, ?_⟩
  · exact small_one (by omega) (by omega) (by omega) (by omega)
  · rw [rangeSize_nat]; omega
  · rintro i m₁ nw I oI hh tk9 t9 hi9 ⟨p, ps, pn, f, fv, fn, o5, o6, o7, o8, o9, o10, v7, v8, v9, v10, xs, fs, r, pp, rfl, hmc, hp, hf, d5, d6, d7, d8, d9, d10, sp, sf, S⟩ F9 N9 hI9 hLI
    have hI0 := hI9
    have sI : Sep L I := ⟨Ne.symm (hI9 _ (.tail _ (.tail _ (.tail _ (.tail _ (.tail _ (.tail _ (.tail _ (.head _))))))))), Ne.symm (hI9 _ (.tail _ (.tail _ (.tail _ (.tail _ (.tail _ (.tail _ (.tail _ (.tail _ (.head _)))))))))), Ne.symm (hI9 _ (.tail _ (.tail _ (.tail _ (.tail _ (.tail _ (.tail _ (.tail _ (.tail _ (.tail _ (.head _))))))))))), Ne.symm (hI9 _ (.tail _ (.tail _ (.tail _ (.tail _ (.tail _ (.tail _ (.tail _ (.tail _ (.tail _ (.tail _ (.head _)))))))))))), Ne.symm (hI9 _ (.tail _ (.tail _ (.tail _ (.tail _ (.tail _ (.tail _ (.tail _ (.tail _ (.tail _ (.tail _ (.tail _ (.head _))))))))))))), Ne.symm (hI9 _ (.tail _ (.tail _ (.tail _ (.tail _ (.tail _ (.tail _ (.tail _ (.tail _ (.tail _ (.tail _ (.tail _ (.tail _ (.head _))))))))))))))⟩
    replace F9 : Fr h₀ L hh _ := Fr_ex1 (x := Str.ofString "can") F9 hmc
    replace N9 : News h₀ L hh (((I, oI) :: (p, listOf ps.toArray pn) :: (f, listOf fv.toArray fn) :: (wd, listOf wv.toArray wn) :: (ed, listOf ev.toArray en) :: (L+1, o1) :: (L+3, o3) :: (L+4, o4) :: (L+5, o5) :: (L+6, o6) :: []) ++ (L+7, o7) :: (L+8, o8) :: (L+9, o9) :: (L+10, o10) :: []) := N9
    walk1
    refine stCell F9 N9 d7 (List.forall_mem_cons.mpr ⟨sI.c7, List.forall_mem_cons.mpr ⟨sp.c7, List.forall_mem_cons.mpr ⟨sf.c7, List.forall_mem_cons.mpr ⟨sw.c7, List.forall_mem_cons.mpr ⟨se.c7, List.forall_mem_cons.mpr ⟨cell_ne (by decide), List.forall_mem_cons.mpr ⟨cell_ne (by decide), List.forall_mem_cons.mpr ⟨cell_ne (by decide), List.forall_mem_cons.mpr ⟨cell_ne (by decide), List.forall_mem_cons.mpr ⟨cell_ne (by decide), fun _ h => nomatch h⟩⟩⟩⟩⟩⟩⟩⟩⟩⟩) (List.forall_mem_cons.mpr ⟨cell_ne (by decide), List.forall_mem_cons.mpr ⟨cell_ne (by decide), List.forall_mem_cons.mpr ⟨cell_ne (by decide), fun _ h => nomatch h⟩⟩⟩) ?_
    clear F9 N9 d7
    intro hh1 o79 F8 N8 d79
    simp only [List.cons_append, List.nil_append] at N8
    have e0 : (0 : Int) + (i : Int) = (i : Int) := by omega
    rw [e0] at d79
    dsimp only
    refine T_turn _ mean mg mb _ _ _ _ _ A₀ base h₀ _ _ _ _ _ _ I oI p ps pn f fv fn wd wv wn ed ev en o1 o3 o4 o5 o6 o79 o8 o9 o10 n i tn _ v8 v9 v10 ws es xs fs can r pp ei B F8 KX N8 T hdp hun hE hp hf hw he d1 d3 d4 d5 d6 d79 d8 d9 d10 sI sp sf sw se S hi9 ⟨?_, ?_⟩
    · intro h tk m a av ak g gv gn o5' o6' o8' o9' o10' v8' v9' v10' xs' fs' r' pp' hmc' F7 N7 hav hgv d5' d6' d8' d9' d10' sa sg ia ig S'
      refine TurnEnd.next F7 N7 ?_ ⟨a, av, ak, g, gv, gn, o5', o6', o79, o8', o9', o10', _, v8', v9', v10', xs', fs', r', pp', rfl, hmc', hav, hgv, d5', d6', d79, d8', d9', d10', sa, sg, S'⟩
      exact (List.forall_mem_cons.mpr ⟨ia, List.forall_mem_cons.mpr ⟨ig, List.forall_mem_cons.mpr ⟨hI0 (wd, listOf wv.toArray wn) (.tail _ (.tail _ (.head _))), List.forall_mem_cons.mpr ⟨hI0 (ed, listOf ev.toArray en) (.tail _ (.tail _ (.tail _ (.head _)))), List.forall_mem_cons.mpr ⟨hI0 (L+1, o1) (.tail _ (.tail _ (.tail _ (.tail _ (.head _))))), List.forall_mem_cons.mpr ⟨hI0 (L+3, o3) (.tail _ (.tail _ (.tail _ (.tail _ (.tail _ (.head _)))))), List.forall_mem_cons.mpr ⟨hI0 (L+4, o4) (.tail _ (.tail _ (.tail _ (.tail _ (.tail _ (.tail _ (.head _))))))), List.forall_mem_cons.mpr ⟨hI0 (L+5, o5) (.tail _ (.tail _ (.tail _ (.tail _ (.tail _ (.tail _ (.tail _ (.head _)))))))), List.forall_mem_cons.mpr ⟨hI0 (L+6, o6) (.tail _ (.tail _ (.tail _ (.tail _ (.tail _ (.tail _ (.tail _ (.tail _ (.head _))))))))), List.forall_mem_cons.mpr ⟨hI0 (L+7, o7) (.tail _ (.tail _ (.tail _ (.tail _ (.tail _ (.tail _ (.tail _ (.tail _ (.tail _ (.head _)))))))))), List.forall_mem_cons.mpr ⟨hI0 (L+8, o8) (.tail _ (.tail _ (.tail _ (.tail _ (.tail _ (.tail _ (.tail _ (.tail _ (.tail _ (.tail _ (.head _))))))))))), List.forall_mem_cons.mpr ⟨hI0 (L+9, o9) (.tail _ (.tail _ (.tail _ (.tail _ (.tail _ (.tail _ (.tail _ (.tail _ (.tail _ (.tail _ (.tail _ (.head _)))))))))))), List.forall_mem_cons.mpr ⟨hI0 (L+10, o10) (.tail _ (.tail _ (.tail _ (.tail _ (.tail _ (.tail _ (.tail _ (.tail _ (.tail _ (.tail _ (.tail _ (.tail _ (.head _))))))))))))), fun _ h => nomatch h⟩⟩⟩⟩⟩⟩⟩⟩⟩⟩⟩⟩⟩)
    · intro h tk m hF
      exact hQ.2 h tk m hF
  · rintro m₁ nw hh tk9 hJn F9 N9
    exact hQ.1 hh tk9 m₁ nw F9 N9 hJn
end Mine
end
section
open PySem PySem.W PyProof.Rows
set_option maxRecDepth 100000
set_option maxHeartbeats 8000000
namespace Mine
theorem law_eq : lawBody = [st 0, st 1, st 2, st 3, st 4, st 5, st 6, st 7, st 8, st 9, st 10] := by rfl
theorem law_run (w : World) (mean : ExcName → Option Value) (mg mb : Str → Option Value) (dp un : Nat) (gd : Option (List Code)) (L : Addr) (outer : List Env) (A₀ : Around) (base h₀ : Heap) (m₀ : Str → Option Value) (s : Shared) (Q : Flow → Shared → Prop) (E : Value → Shared → Prop) (fa : Addr) (cd : Value)
  (sc : Addr) (vs : List Value) (ns : List Int) (o1 o2 o3 o4 o5 o6 o7 o8 o9 o10 : Obj) (v1 v2 v3 v4 v5 v6 v7 v8 v9 v10 : Option Value)
  (B : Below A₀ base outer h₀) (F : Fr h₀ L s.heap (fun y => if y = Str.ofString "script" then some (.ref sc) else m₀ y)) (KX : (Mine.hd.heap_39 w.params).In h₀) (N : News h₀ L s.heap ((L+10, o10) :: (L+9, o9) :: (L+8, o8) :: (L+7, o7) :: (L+6, o6) :: (L+5, o5) :: (L+4, o4) :: (L+3, o3) :: (L+2, o2) :: (L+1, o1) :: []))
  (T : Top Mine.hd.view_39 [Str.ofString "_twin_re_1", Str.ofString "_twin_re_2", Str.ofString "_sre"] mean mg mb h₀) (hdp : dp + 16 < recursionLimit) (hun : un + 128 < cLine) (hE : PassesOwn (model PySem.Challenge.rw_wn0018_01.row.prog w) (ktrTop dp un gd (Str.ofString "law") lawScope L fa cd (lawCells L) outer) (envX (Str.ofString "law") lawScope L fa cd (lawCells L)) E)
  (hl : h₀.IsList sc vs.toArray) (hi : IntsAre vs ns) (hlen : ns.length ≤ 63)
  (d1 : o1.data = .cell v1) (d2 : o2.data = .cell v2) (d3 : o3.data = .cell v3) (d4 : o4.data = .cell v4) (d5 : o5.data = .cell v5) (d6 : o6.data = .cell v6) (d7 : o7.data = .cell v7) (d8 : o8.data = .cell v8) (d9 : o9.data = .cell v9) (d10 : o10.data = .cell v10)
  (hQ : ∀ h tk m, Fr h₀ L h m → Q (.ret (.bool true)) { s with heap := h, toks := tk })
  : wpAny (model PySem.Challenge.rw_wn0018_01.row.prog w) (ktrTop dp un gd (Str.ofString "law") lawScope L fa cd (lawCells L) outer) (execs lawBody (envX (Str.ofString "law") lawScope L fa cd (lawCells L))) Q E s := by
  rw [law_eq]
  have N9 := N
  have F9 := F
  refine next_cons (S_st0 _ _ _ _ _ _ _ _ _ _ _ _ _ _ _ _ _ _ _ sc vs ns o1 v1 B F9 KX (News.part (l' := (L+1, o1) :: (L+10, o10) :: (L+9, o9) :: (L+8, o8) :: (L+7, o7) :: (L+6, o6) :: (L+5, o5) :: (L+4, o4) :: (L+3, o3) :: (L+2, o2) :: []) N9 (List.forall_mem_cons.mpr ⟨.tail _ (.tail _ (.tail _ (.tail _ (.tail _ (.tail _ (.tail _ (.tail _ (.tail _ (.head _))))))))), List.forall_mem_cons.mpr ⟨.head _, List.forall_mem_cons.mpr ⟨.tail _ (.head _), List.forall_mem_cons.mpr ⟨.tail _ (.tail _ (.head _)), List.forall_mem_cons.mpr ⟨.tail _ (.tail _ (.tail _ (.head _))), List.forall_mem_cons.mpr ⟨.tail _ (.tail _ (.tail _ (.tail _ (.head _)))), List.forall_mem_cons.mpr ⟨.tail _ (.tail _ (.tail _ (.tail _ (.tail _ (.head _))))), List.forall_mem_cons.mpr ⟨.tail _ (.tail _ (.tail _ (.tail _ (.tail _ (.tail _ (.head _)))))), List.forall_mem_cons.mpr ⟨.tail _ (.tail _ (.tail _ (.tail _ (.tail _ (.tail _ (.tail _ (.head _))))))), List.forall_mem_cons.mpr ⟨.tail _ (.tail _ (.tail _ (.tail _ (.tail _ (.tail _ (.tail _ (.tail _ (.head _)))))))), fun _ h => nomatch h⟩⟩⟩⟩⟩⟩⟩⟩⟩⟩)) T hdp hun hl hi hlen d1 (List.forall_mem_cons.mpr ⟨cell_ne (by decide), List.forall_mem_cons.mpr ⟨cell_ne (by decide), List.forall_mem_cons.mpr ⟨cell_ne (by decide), List.forall_mem_cons.mpr ⟨cell_ne (by decide), List.forall_mem_cons.mpr ⟨cell_ne (by decide), List.forall_mem_cons.mpr ⟨cell_ne (by decide), List.forall_mem_cons.mpr ⟨cell_ne (by decide), List.forall_mem_cons.mpr ⟨cell_ne (by decide), List.forall_mem_cons.mpr ⟨cell_ne (by decide), fun _ h => nomatch h⟩⟩⟩⟩⟩⟩⟩⟩⟩) ?_)
  intro h1 tk1 tn o1n F1 N1 d1n
  obtain ⟨n, hn, hnE⟩ : ∃ n : Nat, (n = 5 ∨ n = 6) ∧ 5 + ((ns.length : Int)).fmod 2 = (n : Int) := by
    have h1 := Int.fmod_nonneg_of_pos (ns.length : Int) (b := 2) (by decide)
    have h2 := Int.fmod_lt_of_pos (ns.length : Int) (b := 2) (by decide)
    exact ⟨(5 + ((ns.length : Int)).fmod 2).toNat, by omega, by omega⟩
  rw [hnE] at d1n
  clear N9
  have N9 := N1
  clear F9
  have F9 := F1
  refine next_cons (S_st1 _ _ _ _ _ _ _ _ _ _ _ _ _ _ _ _ _ _ _ sc vs ns o2 v2 B F9 KX (News.part (l' := (L+2, o2) :: (L+1, o1n) :: (L+10, o10) :: (L+9, o9) :: (L+8, o8) :: (L+7, o7) :: (L+6, o6) :: (L+5, o5) :: (L+4, o4) :: (L+3, o3) :: []) N9 (List.forall_mem_cons.mpr ⟨.tail _ (.tail _ (.tail _ (.tail _ (.tail _ (.tail _ (.tail _ (.tail _ (.tail _ (.head _))))))))), List.forall_mem_cons.mpr ⟨.head _, List.forall_mem_cons.mpr ⟨.tail _ (.head _), List.forall_mem_cons.mpr ⟨.tail _ (.tail _ (.head _)), List.forall_mem_cons.mpr ⟨.tail _ (.tail _ (.tail _ (.head _))), List.forall_mem_cons.mpr ⟨.tail _ (.tail _ (.tail _ (.tail _ (.head _)))), List.forall_mem_cons.mpr ⟨.tail _ (.tail _ (.tail _ (.tail _ (.tail _ (.head _))))), List.forall_mem_cons.mpr ⟨.tail _ (.tail _ (.tail _ (.tail _ (.tail _ (.tail _ (.head _)))))), List.forall_mem_cons.mpr ⟨.tail _ (.tail _ (.tail _ (.tail _ (.tail _ (.tail _ (.tail _ (.head _))))))), List.forall_mem_cons.mpr ⟨.tail _ (.tail _ (.tail _ (.tail _ (.tail _ (.tail _ (.tail _ (.tail _ (.head _)))))))), fun _ h => nomatch h⟩⟩⟩⟩⟩⟩⟩⟩⟩⟩)) T hdp hun hl hi hlen d2 (List.forall_mem_cons.mpr ⟨cell_ne (by decide), List.forall_mem_cons.mpr ⟨cell_ne (by decide), List.forall_mem_cons.mpr ⟨cell_ne (by decide), List.forall_mem_cons.mpr ⟨cell_ne (by decide), List.forall_mem_cons.mpr ⟨cell_ne (by decide), List.forall_mem_cons.mpr ⟨cell_ne (by decide), List.forall_mem_cons.mpr ⟨cell_ne (by decide), List.forall_mem_cons.mpr ⟨cell_ne (by decide), List.forall_mem_cons.mpr ⟨cell_ne (by decide), fun _ h => nomatch h⟩⟩⟩⟩⟩⟩⟩⟩⟩) ?_)
  intro h2 tk2 D2 w2 k2 D2x w2x o2n sm F2 N2 d2n hsm hsl hsb hne2
  clear N9
  have N9 := N2
  clear F9
  have F9 := F2
  have hn' : (n : Int) = 5 ∨ (n : Int) = 6 := by omega
  refine next_cons (S_st2 _ _ _ _ _ _ _ _ _ _ _ _ _ _ _ _ _ _ _ sc sm w2 k2 D2 o1n o2n (n : Int) tn B F9 KX (News.part (l' := (D2, listOf (List.toArray w2) k2) :: (L+1, o1n) :: (L+2, o2n) :: (L+10, o10) :: (L+9, o9) :: (L+8, o8) :: (L+7, o7) :: (L+6, o6) :: (L+5, o5) :: (L+4, o4) :: (L+3, o3) :: []) N9 (List.forall_mem_cons.mpr ⟨.head _, List.forall_mem_cons.mpr ⟨.tail _ (.tail _ (.tail _ (.head _))), List.forall_mem_cons.mpr ⟨.tail _ (.tail _ (.head _)), List.forall_mem_cons.mpr ⟨.tail _ (.tail _ (.tail _ (.tail _ (.head _)))), List.forall_mem_cons.mpr ⟨.tail _ (.tail _ (.tail _ (.tail _ (.tail _ (.head _))))), List.forall_mem_cons.mpr ⟨.tail _ (.tail _ (.tail _ (.tail _ (.tail _ (.tail _ (.head _)))))), List.forall_mem_cons.mpr ⟨.tail _ (.tail _ (.tail _ (.tail _ (.tail _ (.tail _ (.tail _ (.head _))))))), List.forall_mem_cons.mpr ⟨.tail _ (.tail _ (.tail _ (.tail _ (.tail _ (.tail _ (.tail _ (.tail _ (.head _)))))))), List.forall_mem_cons.mpr ⟨.tail _ (.tail _ (.tail _ (.tail _ (.tail _ (.tail _ (.tail _ (.tail _ (.tail _ (.head _))))))))), List.forall_mem_cons.mpr ⟨.tail _ (.tail _ (.tail _ (.tail _ (.tail _ (.tail _ (.tail _ (.tail _ (.tail _ (.tail _ (.head _)))))))))), List.forall_mem_cons.mpr ⟨.tail _ (.tail _ (.tail _ (.tail _ (.tail _ (.tail _ (.tail _ (.tail _ (.tail _ (.tail _ (.tail _ (.head _))))))))))), fun _ h => nomatch h⟩⟩⟩⟩⟩⟩⟩⟩⟩⟩⟩)) T hdp hun hsm hsl hsb hn' d1n d2n ?_)
  intro h3 tk3 D3 w3 k3 D3x w3x D3y w3y k3y dr F3 N3 hdr hdl hdb hne3
  have n33 : D3 ≠ L + 3 := Ne.symm (hne3 _ (.tail _ (.tail _ (.tail _ (.tail _ (.tail _ (.tail _ (.tail _ (.tail _ (.tail _ (.tail _ (.tail _ (.tail _ (.head _))))))))))))))
  have n34 : D3 ≠ L + 4 := Ne.symm (hne3 _ (.tail _ (.tail _ (.tail _ (.tail _ (.tail _ (.tail _ (.tail _ (.tail _ (.tail _ (.tail _ (.tail _ (.head _)))))))))))))
  have hdl' : dr.length = n := by omega
  clear N9
  have N9 := N3
  clear F9
  have F9 := Fr_ex1 (x := Str.ofString "drawn") F3 (by rfl)
  refine next_cons (S_st3 _ _ _ _ _ _ _ _ _ _ _ _ _ _ _ _ _ _ _ dr w3 k3 D3 o1n o3 v3 (n : Int) tn B F9 KX (News.part (l' := (D3, listOf (List.toArray w3) k3) :: (L+1, o1n) :: (L+3, o3) :: (L+2, o2n) :: (L+10, o10) :: (L+9, o9) :: (L+8, o8) :: (L+7, o7) :: (L+6, o6) :: (L+5, o5) :: (L+4, o4) :: []) N9 (List.forall_mem_cons.mpr ⟨.head _, List.forall_mem_cons.mpr ⟨.tail _ (.tail _ (.tail _ (.tail _ (.head _)))), List.forall_mem_cons.mpr ⟨.tail _ (.tail _ (.tail _ (.tail _ (.tail _ (.tail _ (.tail _ (.tail _ (.tail _ (.tail _ (.tail _ (.tail _ (.tail _ (.head _))))))))))))), List.forall_mem_cons.mpr ⟨.tail _ (.tail _ (.tail _ (.tail _ (.tail _ (.head _))))), List.forall_mem_cons.mpr ⟨.tail _ (.tail _ (.tail _ (.tail _ (.tail _ (.tail _ (.head _)))))), List.forall_mem_cons.mpr ⟨.tail _ (.tail _ (.tail _ (.tail _ (.tail _ (.tail _ (.tail _ (.head _))))))), List.forall_mem_cons.mpr ⟨.tail _ (.tail _ (.tail _ (.tail _ (.tail _ (.tail _ (.tail _ (.tail _ (.head _)))))))), List.forall_mem_cons.mpr ⟨.tail _ (.tail _ (.tail _ (.tail _ (.tail _ (.tail _ (.tail _ (.tail _ (.tail _ (.head _))))))))), List.forall_mem_cons.mpr ⟨.tail _ (.tail _ (.tail _ (.tail _ (.tail _ (.tail _ (.tail _ (.tail _ (.tail _ (.tail _ (.head _)))))))))), List.forall_mem_cons.mpr ⟨.tail _ (.tail _ (.tail _ (.tail _ (.tail _ (.tail _ (.tail _ (.tail _ (.tail _ (.tail _ (.tail _ (.head _))))))))))), List.forall_mem_cons.mpr ⟨.tail _ (.tail _ (.tail _ (.tail _ (.tail _ (.tail _ (.tail _ (.tail _ (.tail _ (.tail _ (.tail _ (.tail _ (.head _)))))))))))), fun _ h => nomatch h⟩⟩⟩⟩⟩⟩⟩⟩⟩⟩⟩)) T hdp hun hdr hdl hdb hn' d1n d3 n33 (List.forall_mem_cons.mpr ⟨cell_ne (by decide), List.forall_mem_cons.mpr ⟨cell_ne (by decide), List.forall_mem_cons.mpr ⟨cell_ne (by decide), List.forall_mem_cons.mpr ⟨cell_ne (by decide), List.forall_mem_cons.mpr ⟨cell_ne (by decide), List.forall_mem_cons.mpr ⟨cell_ne (by decide), List.forall_mem_cons.mpr ⟨cell_ne (by decide), List.forall_mem_cons.mpr ⟨cell_ne (by decide), fun _ h => nomatch h⟩⟩⟩⟩⟩⟩⟩⟩) ?_)
  intro h4 tk4 wd wv wn o3n F4 N4 hw d3n hne4
  have sw : Sep L wd := ⟨Ne.symm (hne4 _ (.tail _ (.tail _ (.tail _ (.tail _ (.tail _ (.tail _ (.tail _ (.tail _ (.tail _ (.head _))))))))))), Ne.symm (hne4 _ (.tail _ (.tail _ (.tail _ (.tail _ (.tail _ (.tail _ (.tail _ (.tail _ (.head _)))))))))), Ne.symm (hne4 _ (.tail _ (.tail _ (.tail _ (.tail _ (.tail _ (.tail _ (.tail _ (.head _))))))))), Ne.symm (hne4 _ (.tail _ (.tail _ (.tail _ (.tail _ (.tail _ (.tail _ (.head _)))))))), Ne.symm (hne4 _ (.tail _ (.tail _ (.tail _ (.tail _ (.tail _ (.head _))))))), Ne.symm (hne4 _ (.tail _ (.tail _ (.tail _ (.tail _ (.head _))))))⟩
  have n44 : wd ≠ L + 4 := Ne.symm (hne4 _ (.tail _ (.tail _ (.tail _ (.tail _ (.tail _ (.tail _ (.tail _ (.tail _ (.tail _ (.tail _ (.head _))))))))))))
  clear N9
  have N9 := N4
  clear F9
  have F9 := Fr_ex1 (x := Str.ofString "drawn") F4 (by rfl)
  refine next_cons (S_st4 _ _ _ _ _ _ _ _ _ _ _ _ _ _ _ _ _ _ _ dr w3 k3 D3 o1n o4 v4 (n : Int) tn B F9 KX (News.part (l' := (D3, listOf (List.toArray w3) k3) :: (L+1, o1n) :: (L+4, o4) :: (wd, listOf (List.toArray wv) wn) :: (L+3, o3n) :: (L+2, o2n) :: (L+10, o10) :: (L+9, o9) :: (L+8, o8) :: (L+7, o7) :: (L+6, o6) :: (L+5, o5) :: []) N9 (List.forall_mem_cons.mpr ⟨.tail _ (.head _), List.forall_mem_cons.mpr ⟨.tail _ (.tail _ (.head _)), List.forall_mem_cons.mpr ⟨.tail _ (.tail _ (.tail _ (.tail _ (.tail _ (.tail _ (.tail _ (.tail _ (.tail _ (.tail _ (.tail _ (.head _))))))))))), List.forall_mem_cons.mpr ⟨.head _, List.forall_mem_cons.mpr ⟨.tail _ (.tail _ (.tail _ (.head _))), List.forall_mem_cons.mpr ⟨.tail _ (.tail _ (.tail _ (.tail _ (.head _)))), List.forall_mem_cons.mpr ⟨.tail _ (.tail _ (.tail _ (.tail _ (.tail _ (.head _))))), List.forall_mem_cons.mpr ⟨.tail _ (.tail _ (.tail _ (.tail _ (.tail _ (.tail _ (.head _)))))), List.forall_mem_cons.mpr ⟨.tail _ (.tail _ (.tail _ (.tail _ (.tail _ (.tail _ (.tail _ (.head _))))))), List.forall_mem_cons.mpr ⟨.tail _ (.tail _ (.tail _ (.tail _ (.tail _ (.tail _ (.tail _ (.tail _ (.head _)))))))), List.forall_mem_cons.mpr ⟨.tail _ (.tail _ (.tail _ (.tail _ (.tail _ (.tail _ (.tail _ (.tail _ (.tail _ (.head _))))))))), List.forall_mem_cons.mpr ⟨.tail _ (.tail _ (.tail _ (.tail _ (.tail _ (.tail _ (.tail _ (.tail _ (.tail _ (.tail _ (.head _)))))))))), fun _ h => nomatch h⟩⟩⟩⟩⟩⟩⟩⟩⟩⟩⟩⟩)) T hdp hun hdr hdl hdb hn' d1n d4 n34 (List.forall_mem_cons.mpr ⟨n44, List.forall_mem_cons.mpr ⟨cell_ne (by decide), List.forall_mem_cons.mpr ⟨cell_ne (by decide), List.forall_mem_cons.mpr ⟨cell_ne (by decide), List.forall_mem_cons.mpr ⟨cell_ne (by decide), List.forall_mem_cons.mpr ⟨cell_ne (by decide), List.forall_mem_cons.mpr ⟨cell_ne (by decide), List.forall_mem_cons.mpr ⟨cell_ne (by decide), List.forall_mem_cons.mpr ⟨cell_ne (by decide), fun _ h => nomatch h⟩⟩⟩⟩⟩⟩⟩⟩⟩) ?_)
  intro h5 tk5 ed ev en o4n F5 N5 he d4n hne5
  have se : Sep L ed := ⟨Ne.symm (hne5 _ (.tail _ (.tail _ (.tail _ (.tail _ (.tail _ (.tail _ (.tail _ (.tail _ (.tail _ (.tail _ (.tail _ (.head _))))))))))))), Ne.symm (hne5 _ (.tail _ (.tail _ (.tail _ (.tail _ (.tail _ (.tail _ (.tail _ (.tail _ (.tail _ (.tail _ (.head _)))))))))))), Ne.symm (hne5 _ (.tail _ (.tail _ (.tail _ (.tail _ (.tail _ (.tail _ (.tail _ (.tail _ (.tail _ (.head _))))))))))), Ne.symm (hne5 _ (.tail _ (.tail _ (.tail _ (.tail _ (.tail _ (.tail _ (.tail _ (.tail _ (.head _)))))))))), Ne.symm (hne5 _ (.tail _ (.tail _ (.tail _ (.tail _ (.tail _ (.tail _ (.tail _ (.head _))))))))), Ne.symm (hne5 _ (.tail _ (.tail _ (.tail _ (.tail _ (.tail _ (.tail _ (.head _))))))))⟩
  clear N9
  have N9 := N5
  clear F9
  have F9 := F5
  have hwl : ((dr.map fun x : Int => x.fmod (n : Int)).length : Int) = (n : Int) := by rw [List.length_map]; omega
  have hel : ((dr.map fun x : Int => edgeOf (x.fdiv (n : Int))).length : Int) = (n : Int) := by rw [List.length_map]; omega
  have hwb : ∀ u : Int, 0 ≤ u → u < (n : Int) → 0 ≤ (dr.map fun x : Int => x.fmod (n : Int)).getD u.toNat 0 ∧ (dr.map fun x : Int => x.fmod (n : Int)).getD u.toNat 0 ≤ 5 ∧ ((dr.map fun x : Int => edgeOf (x.fdiv (n : Int))).getD u.toNat Str.empty).length ≤ 2 := fun u h0 h1 => by
    rw [getD_map' _ 0 0 (by omega), getD_map' _ 0 Str.empty (by omega)]
    have q1 := Int.fmod_nonneg_of_pos (dr.getD u.toNat 0) (b := (n : Int)) (by omega)
    have q2 := Int.fmod_lt_of_pos (dr.getD u.toNat 0) (b := (n : Int)) (by omega)
    refine ⟨q1, by omega, ?_⟩
    unfold edgeOf
    split
    · decide
    · split <;> decide
  refine next_cons (S_st5 _ _ _ _ _ _ _ _ _ _ _ _ _ _ _ _ _ _ _ wd wv wn (dr.map fun x : Int => x.fmod (n : Int)) ed ev en (dr.map fun x : Int => edgeOf (x.fdiv (n : Int))) o1n o3n o4n o5 v5 (n : Int) tn B F9 KX (News.part (l' := (wd, listOf (List.toArray wv) wn) :: (ed, listOf (List.toArray ev) en) :: (L+1, o1n) :: (L+3, o3n) :: (L+4, o4n) :: (L+5, o5) :: (L+2, o2n) :: (L+10, o10) :: (L+9, o9) :: (L+8, o8) :: (L+7, o7) :: (L+6, o6) :: []) N9 (List.forall_mem_cons.mpr ⟨.tail _ (.tail _ (.tail _ (.tail _ (.head _)))), List.forall_mem_cons.mpr ⟨.head _, List.forall_mem_cons.mpr ⟨.tail _ (.tail _ (.head _)), List.forall_mem_cons.mpr ⟨.tail _ (.tail _ (.tail _ (.tail _ (.tail _ (.head _))))), List.forall_mem_cons.mpr ⟨.tail _ (.tail _ (.tail _ (.head _))), List.forall_mem_cons.mpr ⟨.tail _ (.tail _ (.tail _ (.tail _ (.tail _ (.tail _ (.tail _ (.tail _ (.tail _ (.tail _ (.tail _ (.tail _ (.head _)))))))))))), List.forall_mem_cons.mpr ⟨.tail _ (.tail _ (.tail _ (.tail _ (.tail _ (.tail _ (.head _)))))), List.forall_mem_cons.mpr ⟨.tail _ (.tail _ (.tail _ (.tail _ (.tail _ (.tail _ (.tail _ (.head _))))))), List.forall_mem_cons.mpr ⟨.tail _ (.tail _ (.tail _ (.tail _ (.tail _ (.tail _ (.tail _ (.tail _ (.head _)))))))), List.forall_mem_cons.mpr ⟨.tail _ (.tail _ (.tail _ (.tail _ (.tail _ (.tail _ (.tail _ (.tail _ (.tail _ (.head _))))))))), List.forall_mem_cons.mpr ⟨.tail _ (.tail _ (.tail _ (.tail _ (.tail _ (.tail _ (.tail _ (.tail _ (.tail _ (.tail _ (.head _)))))))))), List.forall_mem_cons.mpr ⟨.tail _ (.tail _ (.tail _ (.tail _ (.tail _ (.tail _ (.tail _ (.tail _ (.tail _ (.tail _ (.tail _ (.head _))))))))))), fun _ h => nomatch h⟩⟩⟩⟩⟩⟩⟩⟩⟩⟩⟩⟩)) T hdp hun hw hwl he hel (by omega) hwb d1n d3n d4n d5 sw.c5 se.c5 (List.forall_mem_cons.mpr ⟨cell_ne (by decide), List.forall_mem_cons.mpr ⟨cell_ne (by decide), List.forall_mem_cons.mpr ⟨cell_ne (by decide), List.forall_mem_cons.mpr ⟨cell_ne (by decide), List.forall_mem_cons.mpr ⟨cell_ne (by decide), List.forall_mem_cons.mpr ⟨cell_ne (by decide), fun _ h => nomatch h⟩⟩⟩⟩⟩⟩) ?_)
  intro h6 tk6 p ps pn o5n F6 N6 hp d5n hne6
  have sp : Sep L p := ⟨Ne.symm (hne6 _ (.tail _ (.tail _ (.tail _ (.tail _ (.tail _ (.head _))))))), Ne.symm (hne6 _ (.tail _ (.tail _ (.tail _ (.tail _ (.tail _ (.tail _ (.tail _ (.tail _ (.tail _ (.tail _ (.tail _ (.head _))))))))))))), Ne.symm (hne6 _ (.tail _ (.tail _ (.tail _ (.tail _ (.tail _ (.tail _ (.tail _ (.tail _ (.tail _ (.tail _ (.head _)))))))))))), Ne.symm (hne6 _ (.tail _ (.tail _ (.tail _ (.tail _ (.tail _ (.tail _ (.tail _ (.tail _ (.tail _ (.head _))))))))))), Ne.symm (hne6 _ (.tail _ (.tail _ (.tail _ (.tail _ (.tail _ (.tail _ (.tail _ (.tail _ (.head _)))))))))), Ne.symm (hne6 _ (.tail _ (.tail _ (.tail _ (.tail _ (.tail _ (.tail _ (.tail _ (.head _)))))))))⟩
  clear N9
  have N9 := N6
  clear F9
  have F9 := F6
  refine next_cons (S_st6 _ _ _ _ _ _ _ _ _ _ _ _ _ _ _ _ _ _ _ o1n o6 v6 (n : Int) tn B F9 KX (News.part (l' := (L+1, o1n) :: (L+6, o6) :: (p, listOf (List.toArray ps) pn) :: (wd, listOf (List.toArray wv) wn) :: (ed, listOf (List.toArray ev) en) :: (L+3, o3n) :: (L+4, o4n) :: (L+5, o5n) :: (L+2, o2n) :: (L+10, o10) :: (L+9, o9) :: (L+8, o8) :: (L+7, o7) :: []) N9 (List.forall_mem_cons.mpr ⟨.tail _ (.tail _ (.tail _ (.head _))), List.forall_mem_cons.mpr ⟨.tail _ (.tail _ (.tail _ (.tail _ (.tail _ (.tail _ (.tail _ (.tail _ (.tail _ (.tail _ (.tail _ (.tail _ (.head _)))))))))))), List.forall_mem_cons.mpr ⟨.head _, List.forall_mem_cons.mpr ⟨.tail _ (.head _), List.forall_mem_cons.mpr ⟨.tail _ (.tail _ (.head _)), List.forall_mem_cons.mpr ⟨.tail _ (.tail _ (.tail _ (.tail _ (.head _)))), List.forall_mem_cons.mpr ⟨.tail _ (.tail _ (.tail _ (.tail _ (.tail _ (.head _))))), List.forall_mem_cons.mpr ⟨.tail _ (.tail _ (.tail _ (.tail _ (.tail _ (.tail _ (.head _)))))), List.forall_mem_cons.mpr ⟨.tail _ (.tail _ (.tail _ (.tail _ (.tail _ (.tail _ (.tail _ (.head _))))))), List.forall_mem_cons.mpr ⟨.tail _ (.tail _ (.tail _ (.tail _ (.tail _ (.tail _ (.tail _ (.tail _ (.head _)))))))), List.forall_mem_cons.mpr ⟨.tail _ (.tail _ (.tail _ (.tail _ (.tail _ (.tail _ (.tail _ (.tail _ (.tail _ (.head _))))))))), List.forall_mem_cons.mpr ⟨.tail _ (.tail _ (.tail _ (.tail _ (.tail _ (.tail _ (.tail _ (.tail _ (.tail _ (.tail _ (.head _)))))))))), List.forall_mem_cons.mpr ⟨.tail _ (.tail _ (.tail _ (.tail _ (.tail _ (.tail _ (.tail _ (.tail _ (.tail _ (.tail _ (.tail _ (.head _))))))))))), fun _ h => nomatch h⟩⟩⟩⟩⟩⟩⟩⟩⟩⟩⟩⟩⟩)) T hdp hun hn' d1n d6 (List.forall_mem_cons.mpr ⟨sp.c6, List.forall_mem_cons.mpr ⟨sw.c6, List.forall_mem_cons.mpr ⟨se.c6, List.forall_mem_cons.mpr ⟨cell_ne (by decide), List.forall_mem_cons.mpr ⟨cell_ne (by decide), List.forall_mem_cons.mpr ⟨cell_ne (by decide), List.forall_mem_cons.mpr ⟨cell_ne (by decide), List.forall_mem_cons.mpr ⟨cell_ne (by decide), List.forall_mem_cons.mpr ⟨cell_ne (by decide), List.forall_mem_cons.mpr ⟨cell_ne (by decide), List.forall_mem_cons.mpr ⟨cell_ne (by decide), fun _ h => nomatch h⟩⟩⟩⟩⟩⟩⟩⟩⟩⟩⟩) ?_)
  intro h7 tk7 f fv fn D7 w7 o6n F7 N7 hf d6n hlt7
  have sf : Sep L f := ⟨Nat.ne_of_gt (hlt7 _ (.tail _ (.tail _ (.tail _ (.tail _ (.tail _ (.tail _ (.tail _ (.tail _ (.head _)))))))))), Nat.ne_of_gt (hlt7 _ (.tail _ (.tail _ (.head _)))), Nat.ne_of_gt (hlt7 _ (.tail _ (.tail _ (.tail _ (.tail _ (.tail _ (.tail _ (.tail _ (.tail _ (.tail _ (.tail _ (.tail _ (.tail _ (.tail _ (.head _))))))))))))))), Nat.ne_of_gt (hlt7 _ (.tail _ (.tail _ (.tail _ (.tail _ (.tail _ (.tail _ (.tail _ (.tail _ (.tail _ (.tail _ (.tail _ (.tail _ (.head _)))))))))))))), Nat.ne_of_gt (hlt7 _ (.tail _ (.tail _ (.tail _ (.tail _ (.tail _ (.tail _ (.tail _ (.tail _ (.tail _ (.tail _ (.tail _ (.head _))))))))))))), Nat.ne_of_gt (hlt7 _ (.tail _ (.tail _ (.tail _ (.tail _ (.tail _ (.tail _ (.tail _ (.tail _ (.tail _ (.tail _ (.head _))))))))))))⟩
  clear N9
  have N9 := N7
  clear F9
  have F9 := F7
  have hwb6 : ∀ x ∈ (dr.map fun x : Int => x.fmod (n : Int)), 0 ≤ x ∧ x ≤ 6 := fun x hx => by
    obtain ⟨y, _, rfl⟩ := List.mem_map.mp hx
    have q1 := Int.fmod_nonneg_of_pos y (b := (n : Int)) (by omega)
    have q2 := Int.fmod_lt_of_pos y (b := (n : Int)) (by omega)
    exact ⟨q1, by omega⟩
  refine next_cons (S_st7 _ _ _ _ _ _ _ _ _ _ _ _ _ _ _ _ _ _ _ wd wv wn (dr.map fun x : Int => x.fmod (n : Int)) o3n B F9 KX (News.part (l' := (wd, listOf (List.toArray wv) wn) :: (L+3, o3n) :: (f, listOf (List.toArray fv) fn) :: (L+1, o1n) :: (L+6, o6n) :: (p, listOf (List.toArray ps) pn) :: (ed, listOf (List.toArray ev) en) :: (L+4, o4n) :: (L+5, o5n) :: (L+2, o2n) :: (L+10, o10) :: (L+9, o9) :: (L+8, o8) :: (L+7, o7) :: []) N9 (List.forall_mem_cons.mpr ⟨.tail _ (.tail _ (.tail _ (.tail _ (.tail _ (.head _))))), List.forall_mem_cons.mpr ⟨.tail _ (.tail _ (.tail _ (.tail _ (.tail _ (.tail _ (.tail _ (.head _))))))), List.forall_mem_cons.mpr ⟨.head _, List.forall_mem_cons.mpr ⟨.tail _ (.tail _ (.head _)), List.forall_mem_cons.mpr ⟨.tail _ (.tail _ (.tail _ (.head _))), List.forall_mem_cons.mpr ⟨.tail _ (.tail _ (.tail _ (.tail _ (.head _)))), List.forall_mem_cons.mpr ⟨.tail _ (.tail _ (.tail _ (.tail _ (.tail _ (.tail _ (.head _)))))), List.forall_mem_cons.mpr ⟨.tail _ (.tail _ (.tail _ (.tail _ (.tail _ (.tail _ (.tail _ (.tail _ (.head _)))))))), List.forall_mem_cons.mpr ⟨.tail _ (.tail _ (.tail _ (.tail _ (.tail _ (.tail _ (.tail _ (.tail _ (.tail _ (.head _))))))))), List.forall_mem_cons.mpr ⟨.tail _ (.tail _ (.tail _ (.tail _ (.tail _ (.tail _ (.tail _ (.tail _ (.tail _ (.tail _ (.head _)))))))))), List.forall_mem_cons.mpr ⟨.tail _ (.tail _ (.tail _ (.tail _ (.tail _ (.tail _ (.tail _ (.tail _ (.tail _ (.tail _ (.tail _ (.head _))))))))))), List.forall_mem_cons.mpr ⟨.tail _ (.tail _ (.tail _ (.tail _ (.tail _ (.tail _ (.tail _ (.tail _ (.tail _ (.tail _ (.tail _ (.tail _ (.head _)))))))))))), List.forall_mem_cons.mpr ⟨.tail _ (.tail _ (.tail _ (.tail _ (.tail _ (.tail _ (.tail _ (.tail _ (.tail _ (.tail _ (.tail _ (.tail _ (.tail _ (.head _))))))))))))), List.forall_mem_cons.mpr ⟨.tail _ (.tail _ (.tail _ (.tail _ (.tail _ (.tail _ (.tail _ (.tail _ (.tail _ (.tail _ (.tail _ (.tail _ (.tail _ (.tail _ (.head _)))))))))))))), fun _ h => nomatch h⟩⟩⟩⟩⟩⟩⟩⟩⟩⟩⟩⟩⟩⟩)) T hdp hun hw (by omega) hwb6 d3n ?_)
  intro h8 tk8 d hdp9 hds9 F8 N8
  obtain ⟨r, pp, ei, S⟩ := st_init hn hdl' hdb hdp9 hds9
  clear F9 N9
  refine next_cons (S_st8 _ _ _ _ _ _ _ _ _ _ _ _ _ _ _ _ _ _ ((p, listOf (List.toArray ps) pn) :: (f, listOf (List.toArray fv) fn) :: (wd, listOf (List.toArray wv) wn) :: (ed, listOf (List.toArray ev) en) :: (L+1, o1n) :: (L+3, o3n) :: (L+4, o4n) :: (L+5, o5n) :: (L+6, o6n) :: (L+7, o7) :: (L+8, o8) :: (L+9, o9) :: (L+10, o10) :: []) wd wv wn ed ev en o1n o3n o4n n tn (dr.map fun x : Int => x.fmod (n : Int)) (dr.map fun x : Int => edgeOf (x.fdiv (n : Int))) (gr d) ei B F8 KX (News.part N8 (List.forall_mem_cons.mpr ⟨.tail _ (.tail _ (.tail _ (.tail _ (.tail _ (.head _))))), List.forall_mem_cons.mpr ⟨.tail _ (.tail _ (.head _)), List.forall_mem_cons.mpr ⟨.head _, List.forall_mem_cons.mpr ⟨.tail _ (.tail _ (.tail _ (.tail _ (.tail _ (.tail _ (.head _)))))), List.forall_mem_cons.mpr ⟨.tail _ (.tail _ (.tail _ (.head _))), List.forall_mem_cons.mpr ⟨.tail _ (.head _), List.forall_mem_cons.mpr ⟨.tail _ (.tail _ (.tail _ (.tail _ (.tail _ (.tail _ (.tail _ (.head _))))))), List.forall_mem_cons.mpr ⟨.tail _ (.tail _ (.tail _ (.tail _ (.tail _ (.tail _ (.tail _ (.tail _ (.head _)))))))), List.forall_mem_cons.mpr ⟨.tail _ (.tail _ (.tail _ (.tail _ (.head _)))), List.forall_mem_cons.mpr ⟨.tail _ (.tail _ (.tail _ (.tail _ (.tail _ (.tail _ (.tail _ (.tail _ (.tail _ (.tail _ (.tail _ (.tail _ (.tail _ (.head _))))))))))))), List.forall_mem_cons.mpr ⟨.tail _ (.tail _ (.tail _ (.tail _ (.tail _ (.tail _ (.tail _ (.tail _ (.tail _ (.tail _ (.tail _ (.tail _ (.head _)))))))))))), List.forall_mem_cons.mpr ⟨.tail _ (.tail _ (.tail _ (.tail _ (.tail _ (.tail _ (.tail _ (.tail _ (.tail _ (.tail _ (.tail _ (.head _))))))))))), List.forall_mem_cons.mpr ⟨.tail _ (.tail _ (.tail _ (.tail _ (.tail _ (.tail _ (.tail _ (.tail _ (.tail _ (.tail _ (.head _)))))))))), fun _ h => nomatch h⟩⟩⟩⟩⟩⟩⟩⟩⟩⟩⟩⟩⟩)) T hdp hun hE hw he d1n d3n d4n sw se hn ⟨p, ps, pn, f, fv, fn, o5n, o6n, o7, o8, o9, o10, v7, v8, v9, v10, _, _, r, pp, rfl, by rfl, hp, hf, d5n, d6n, d7, d8, d9, d10, sp, sf, S⟩ (.tail _ (.tail _ (.tail _ (.tail _ (.head _))))) ⟨?_, fun h tk m hF => hQ h tk m hF⟩)
  rintro h9 tk9 m9 _ F9 N9 ⟨p, ps, pn, f, fv, fn, o5, o6, o7, o8, o9, o10, v7, v8, v9, v10, xs, fs, r, pp, rfl, hmc, hp, hf, d5, d6, d7, d8, d9, d10, sp, sf, S⟩
  have hlx := S.lx
  have hlf := S.lf
  refine next_cons (S_st9 _ _ _ _ _ _ _ _ _ _ _ _ _ _ _ _ _ _ _ p ps pn xs f fv fn fs o1n o5 o6 o7 (n : Int) tn v7 B F9 KX (News.part (l' := (p, listOf (List.toArray ps) pn) :: (f, listOf (List.toArray fv) fn) :: (L+1, o1n) :: (L+5, o5) :: (L+6, o6) :: (L+7, o7) :: (wd, listOf (List.toArray wv) wn) :: (ed, listOf (List.toArray ev) en) :: (L+3, o3n) :: (L+4, o4n) :: (L+8, o8) :: (L+9, o9) :: (L+10, o10) :: []) N9 (List.forall_mem_cons.mpr ⟨.head _, List.forall_mem_cons.mpr ⟨.tail _ (.head _), List.forall_mem_cons.mpr ⟨.tail _ (.tail _ (.tail _ (.tail _ (.head _)))), List.forall_mem_cons.mpr ⟨.tail _ (.tail _ (.tail _ (.tail _ (.tail _ (.tail _ (.tail _ (.head _))))))), List.forall_mem_cons.mpr ⟨.tail _ (.tail _ (.tail _ (.tail _ (.tail _ (.tail _ (.tail _ (.tail _ (.head _)))))))), List.forall_mem_cons.mpr ⟨.tail _ (.tail _ (.tail _ (.tail _ (.tail _ (.tail _ (.tail _ (.tail _ (.tail _ (.head _))))))))), List.forall_mem_cons.mpr ⟨.tail _ (.tail _ (.head _)), List.forall_mem_cons.mpr ⟨.tail _ (.tail _ (.tail _ (.head _))), List.forall_mem_cons.mpr ⟨.tail _ (.tail _ (.tail _ (.tail _ (.tail _ (.head _))))), List.forall_mem_cons.mpr ⟨.tail _ (.tail _ (.tail _ (.tail _ (.tail _ (.tail _ (.head _)))))), List.forall_mem_cons.mpr ⟨.tail _ (.tail _ (.tail _ (.tail _ (.tail _ (.tail _ (.tail _ (.tail _ (.tail _ (.tail _ (.head _)))))))))), List.forall_mem_cons.mpr ⟨.tail _ (.tail _ (.tail _ (.tail _ (.tail _ (.tail _ (.tail _ (.tail _ (.tail _ (.tail _ (.tail _ (.head _))))))))))), List.forall_mem_cons.mpr ⟨.tail _ (.tail _ (.tail _ (.tail _ (.tail _ (.tail _ (.tail _ (.tail _ (.tail _ (.tail _ (.tail _ (.tail _ (.head _)))))))))))), fun _ h => nomatch h⟩⟩⟩⟩⟩⟩⟩⟩⟩⟩⟩⟩⟩)) T hdp hun hp (by omega) hf (by omega) (by omega) d1n d5 d6 d7 sp.c7 sf.c7 (List.forall_mem_cons.mpr ⟨sw.c7, List.forall_mem_cons.mpr ⟨se.c7, List.forall_mem_cons.mpr ⟨cell_ne (by decide), List.forall_mem_cons.mpr ⟨cell_ne (by decide), List.forall_mem_cons.mpr ⟨cell_ne (by decide), List.forall_mem_cons.mpr ⟨cell_ne (by decide), List.forall_mem_cons.mpr ⟨cell_ne (by decide), fun _ h => nomatch h⟩⟩⟩⟩⟩⟩⟩) hE (fun u h0 h1 => S.lo u.toNat (by omega) (by omega)) ?_)
  intro h10 tk10 m10 o7n v7n d7n F10 N10
  refine next_cons (S_st10 _ _ _ _ _ _ _ _ _ _ _ _ _ _ _ _ _ _ _ B F10 KX N10 T hdp hun ?_)
  intro h11 tk11 m11 F11
  exact hQ _ _ _ F11
end Mine
end
section
open PySem PySem.W PyProof.Rows
set_option maxRecDepth 100000
set_option maxHeartbeats 8000000
namespace Mine
theorem kc_nine {cm : Str → Option Value} {n₁ n₂ n₃ n₄ n₅ n₆ n₇ n₈ n₉ : Str} {c₁ c₂ c₃ c₄ c₅ c₆ c₇ c₈ c₉ : Addr} {cells : List (Addr × Obj)} (x : CellsAre cm [(n₁, c₁), (n₂, c₂), (n₃, c₃), (n₄, c₄), (n₅, c₅), (n₆, c₆), (n₇, c₇), (n₈, c₈), (n₉, c₉)] cells) :
    ∃ o₁ o₂ o₃ o₄ o₅ o₆ o₇ o₈ o₉, cells = [(c₁, o₁), (c₂, o₂), (c₃, o₃), (c₄, o₄), (c₅, o₅), (c₆, o₆), (c₇, o₇), (c₈, o₈), (c₉, o₉)] ∧ o₁.data = .cell (cm n₁) ∧ o₂.data = .cell (cm n₂) ∧ o₃.data = .cell (cm n₃) ∧ o₄.data = .cell (cm n₄) ∧ o₅.data = .cell (cm n₅) ∧ o₆.data = .cell (cm n₆) ∧ o₇.data = .cell (cm n₇) ∧ o₈.data = .cell (cm n₈) ∧ o₉.data = .cell (cm n₉) := by
  cases x with | cons h r => obtain ⟨o₂, o₃, o₄, o₅, o₆, o₇, o₈, o₉, rfl, h₂, h₃, h₄, h₅, h₆, h₇, h₈, h₉⟩ := kc_eight r; exact ⟨_, o₂, o₃, o₄, o₅, o₆, o₇, o₈, o₉, rfl, h, h₂, h₃, h₄, h₅, h₆, h₇, h₈, h₉⟩
theorem kc_ten {cm : Str → Option Value} {n₁ n₂ n₃ n₄ n₅ n₆ n₇ n₈ n₉ n₁₀ : Str} {c₁ c₂ c₃ c₄ c₅ c₆ c₇ c₈ c₉ c₁₀ : Addr} {cells : List (Addr × Obj)} (x : CellsAre cm [(n₁, c₁), (n₂, c₂), (n₃, c₃), (n₄, c₄), (n₅, c₅), (n₆, c₆), (n₇, c₇), (n₈, c₈), (n₉, c₉), (n₁₀, c₁₀)] cells) :
    ∃ o₁ o₂ o₃ o₄ o₅ o₆ o₇ o₈ o₉ o₁₀, cells = [(c₁, o₁), (c₂, o₂), (c₃, o₃), (c₄, o₄), (c₅, o₅), (c₆, o₆), (c₇, o₇), (c₈, o₈), (c₉, o₉), (c₁₀, o₁₀)] ∧ o₁.data = .cell (cm n₁) ∧ o₂.data = .cell (cm n₂) ∧ o₃.data = .cell (cm n₃) ∧ o₄.data = .cell (cm n₄) ∧ o₅.data = .cell (cm n₅) ∧ o₆.data = .cell (cm n₆) ∧ o₇.data = .cell (cm n₇) ∧ o₈.data = .cell (cm n₈) ∧ o₉.data = .cell (cm n₉) ∧ o₁₀.data = .cell (cm n₁₀) := by
  cases x with | cons h r => obtain ⟨o₂, o₃, o₄, o₅, o₆, o₇, o₈, o₉, o₁₀, rfl, h₂, h₃, h₄, h₅, h₆, h₇, h₈, h₉, h₁₀⟩ := kc_nine r; exact ⟨_, o₂, o₃, o₄, o₅, o₆, o₇, o₈, o₉, o₁₀, rfl, h, h₂, h₃, h₄, h₅, h₆, h₇, h₈, h₉, h₁₀⟩
local macro_rules | `(tactic| cells_open $x:ident) => `(tactic| (obtain ⟨_, _, _, _, _, _, _, _, _, _, he, _, _, _, _, _, _, _, _, _, _⟩ := kc_ten $x; subst he))

theorem loose_eq : looseW Mine.hd.view_39 [Str.ofString "_twin_re_1", Str.ofString "_twin_re_2"] = [Str.ofString "_twin_re_1", Str.ofString "_twin_re_2", Str.ofString "_sre"] := by decide +kernel
theorem entry : PySem.Challenge.rw_wn0018_01.Holds := Mine.hd (by
  k_go0
  (with_reducible rename Fr _ _ _ _ => kF); (with_reducible rename News _ _ _ _ => kN); (with_reducible rename Below _ _ _ _ => kB); (with_reducible rename Top _ _ _ _ _ _ => kT); (with_reducible rename Heap.IsList _ _ _ => kL); (with_reducible rename IntsAre _ _ => kI); (with_reducible rename Frag.In _ _ => kX)
  rw [loose_eq] at kT
  refine' law_run _ _ _ _ _ _ _ _ _ _ _ _ _ _ _ _ _ _ _ _ _ _ _ _ _ _ _ _ _ _ _ _ _ _ _ _ _ _ _ _ _ kB (Fr_ex1 (x := Str.ofString "script") kF (by rfl)) kX kN kT ?hdp ?hun ?hE kL kI ?hlen ?d1 ?d2 ?d3 ?d4 ?d5 ?d6 ?d7 ?d8 ?d9 ?d10 ?hQ
  case d1 => assumption
  case d2 => assumption
  case d3 => assumption
  case d4 => assumption
  case d5 => assumption
  case d6 => assumption
  case d7 => assumption
  case d8 => assumption
  case d9 => assumption
  case d10 => assumption
  case hdp => decide
  case hun => decide
  case hlen => omega
  case hE => passes_own
  case hQ =>
    intro h tk m hF
    show GoodW _ _ _ _ _ (.ok (.ret (.bool _))) _
    refine goodW_bool hF (by assumption) (raisesW_false ?_) ?_
    · wrow_none_raised
    · wrow_post)
end Mine
end
theorem PySem.Challenge.cw_wn0018_01_holds : PySem.Challenge.rw_wn0018_01.Holds :=
  Mine.entry
