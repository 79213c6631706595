import PyProof.Rows.All
import Wide.All
import OpenK.AllK
import Wide.FinOn
import Lean
import PySem.Challenge.RW_om0037_01
open PySem PySem.W PyProof.Rows PySem.Calls PySem.Spec
set_option Elab.async false
set_option linter.all false
set_option rowWalk.seconds 0
set_option compiler.extract_closed false
set_option genInjectivity false
set_option genSizeOf false
namespace Mine
set_option maxRecDepth 100000 in
set_option maxHeartbeats 8000000 in
open_top hd for PySem.Challenge.rw_om0037_01
set_option maxRecDepth 100000 in
theorem fill_one : (fun (_ : OpenLaw) (_ : Params → Frag) => True) PySem.Challenge.rw_om0037_01 Mine.hd.heap_39 := by k_fill; trivial
noncomputable abbrev PG : Program := PySem.Challenge.rw_om0037_01.row.prog
/-- where a call stands: what lies below it, the top's facts; they stay as they are while the frame at L runs -/
structure Sit (w : World) (A : Around) (h₀ : Heap) (L : Addr) : Prop where
  hh : A.handled = none
  ex : ∃ (A₀ : Around) (base : Heap) (outer : List Env) (env : Env) (loose : List Str) (mean : ExcName → Option Value) (mg mb : Str → Option Value),
    Below A₀ base outer h₀ ∧ A.frames = some (env :: outer) ∧ env.frame = some L ∧ env.scope.kind = .function ∧ (Mine.hd.heap_39 w.params).In h₀ ∧ Top Mine.hd.view_39 loose mean mg mb h₀
theorem Sit.elim {w : World} {A : Around} {h₀ : Heap} {L : Addr} {P : Prop} (G : Sit w A h₀ L)
    (k : ∀ (A₀ : Around) (base : Heap) (outer : List Env) (env : Env) (loose : List Str) (mean : ExcName → Option Value) (mg mb : Str → Option Value),
      Below A₀ base outer h₀ → A.frames = some (env :: outer) → env.frame = some L → env.scope.kind = .function → (Mine.hd.heap_39 w.params).In h₀ → Top Mine.hd.view_39 loose mean mg mb h₀ → P) : P := by
  obtain ⟨A₀, base, outer, env, loose, mean, mg, mb, a, b, c, d, e, f⟩ := G.ex
  exact k A₀ base outer env loose mean mg mb a b c d e f
abbrev lst (vs : List Value) (n : Nat) : Obj := { cls := .type "list", data := .seq vs.toArray n }
theorem all_cons {α : Type} {P : α → Prop} {a : α} {l : List α} (h : P a) (t : ∀ p ∈ l, P p) : ∀ p ∈ a :: l, P p := List.forall_mem_cons.mpr ⟨h, t⟩
theorem all_one {α : Type} {P : α → Prop} {a : α} (h : P a) : ∀ p ∈ [a], P p := all_cons h fun _ h => nomatch h
theorem all_app {α : Type} {P : α → Prop} {l r : List α} (h : ∀ p ∈ l, P p) (t : ∀ p ∈ r, P p) : ∀ p ∈ l ++ r, P p := fun p hp => (List.mem_append.mp hp).elim (h p) (t p)
/-- ahead of the taking apart of a long hypothesis: the goal as a variable -/
theorem cps {G : Prop} (h : ∀ P : Prop, (G → P) → P) : G := h G id
theorem fa2 {α β : Type} {p : α × β → Prop} (h : ∀ a b, p (a, b)) (x : α × β) : p x := h x.1 x.2
theorem fa3 {α β γ : Type} {p : α × β × γ → Prop} (h : ∀ a b c, p (a, b, c)) (x : α × β × γ) : p x := h x.1 x.2.1 x.2.2
theorem fa4 {α β γ δ : Type} {p : α × β × γ × δ → Prop} (h : ∀ a b c d, p (a, b, c, d)) (x : α × β × γ × δ) : p x := h x.1 x.2.1 x.2.2.1 x.2.2.2
theorem fa6 {α β γ δ ε ζ : Type} {p : α × β × γ × δ × ε × ζ → Prop} (h : ∀ a b c d e f, p (a, b, c, d, e, f)) (x : α × β × γ × δ × ε × ζ) : p x := h x.1 x.2.1 x.2.2.1 x.2.2.2.1 x.2.2.2.2.1 x.2.2.2.2.2
theorem an3 {a b c P : Prop} (h : a ∧ b ∧ c) (k : a → b → c → P) : P := k h.1 h.2.1 h.2.2
theorem an4 {a b c d P : Prop} (h : a ∧ b ∧ c ∧ d) (k : a → b → c → d → P) : P := k h.1 h.2.1 h.2.2.1 h.2.2.2
theorem an6 {a b c d e f P : Prop} (h : a ∧ b ∧ c ∧ d ∧ e ∧ f) (k : a → b → c → d → e → f → P) : P := k h.1 h.2.1 h.2.2.1 h.2.2.2.1 h.2.2.2.2.1 h.2.2.2.2.2
theorem an7 {a b c d e f g P : Prop} (h : a ∧ b ∧ c ∧ d ∧ e ∧ f ∧ g) (k : a → b → c → d → e → f → g → P) : P := k h.1 h.2.1 h.2.2.1 h.2.2.2.1 h.2.2.2.2.1 h.2.2.2.2.2.1 h.2.2.2.2.2.2
/-- a goal at which the walk is to stop -/
def Stop (P : Prop) : Prop := Unit → P
theorem Stop.mk {P : Prop} (h : Stop P) : P := h ()
/-- the defs of the text at whose calls the walk stops -/
def stopAt (a : Addr) : Bool := [121, 58, 65, 72, 79, 86, 93, 100, 107, 114, 128, 135, 142, 149, 154].contains a
theorem stop_call {M : Model} {A : Around} {Q E : Value → Shared → Prop} {s : Shared} {a : Addr} {vs : List Value} (h : Stop (wpAny M A (call (.ref a) vs) Q E s)) (_ : stopAt a = true := by rfl) : wpAny M A (call (.ref a) vs) Q E s := h ()
def retOf : Flow → Value
  | .ret v => v
  | _ => .none
theorem kstB_cons {m : Str → Option Value} {k : Str} {v : Value} {r : List (Str × Value)} : kstB m ((k, v) :: r) = fun z => if z = k then some v else kstB m r z := rfl
theorem kstB_nil {m : Str → Option Value} : kstB m [] = m := rfl
/-- a def's end: back in the frame L that called it -/
def Out (h₀ : Heap) (L : Addr) (m : Str → Option Value) (g : Heap) (Q : Value → Shared → Prop) (fl : Flow) (s' : Shared) : Prop :=
  ∃ L' m' news', Fr g L' s'.heap m' ∧ News g L' s'.heap news' ∧ (Fr h₀ L s'.heap m → News h₀ L s'.heap news' → Q (retOf fl) s')
theorem out_ret {h₀ g : Heap} {L L' : Addr} {m m' : Str → Option Value} {news' : List (Addr × Obj)} {Q : Value → Shared → Prop} {v : Value} {s' : Shared} (F' : Fr g L' s'.heap m') (N' : News g L' s'.heap news')
    (k : Fr h₀ L s'.heap m → News h₀ L s'.heap news' → Q v s') : Out h₀ L m g Q (.ret v) s' := ⟨L', m', news', F', N', k⟩
theorem out_next {h₀ g : Heap} {L L' : Addr} {m m' : Str → Option Value} {news' : List (Addr × Obj)} {Q : Value → Shared → Prop} {s' : Shared} (F' : Fr g L' s'.heap m') (N' : News g L' s'.heap news')
    (k : Fr h₀ L s'.heap m → News h₀ L s'.heap news' → Q .none s') : Out h₀ L m g Q .next s' := ⟨L', m', news', F', N', k⟩
theorem lookup_kst (bs : List (Str × Value)) : (fun y => bs.lookup y) = kstB (fun _ => none) bs := by
  funext y
  induction bs with
  | nil => rfl
  | cons p r ih =>
    obtain ⟨k, v⟩ := p
    rw [List.lookup_cons]
    show _ = if y = k then some v else kstB _ r y
    rw [← ih]
    by_cases e : y = k
    · subst e; simp
    · have : (y == k) = false := by simpa using e
      simp [this, e]
/-- a call of one of the text's defs that raises nothing -/
theorem enter {w : World} {A : Around} {h₀ : Heap} {L : Addr} {s : Shared} {m : Str → Option Value} {news : List (Addr × Obj)} {name qual : Str} {params : Arguments} {body : List Stmt} {scope : Scope} {dV kV doc pm cdv ct oc : Value} {an od : Option Addr} {osl : Array (Option Value)} {f : Addr} {vals : List Value} {binds : List (Str × Value)} (ps : List (Str × Value)) {Q E : Value → Shared → Prop}
    (G : Sit w A h₀ L) (F : Fr h₀ L s.heap m) (N : News h₀ L s.heap news)
    (ho : (Mine.hd.heap_39 w.params).lookup f = some ⟨oc, od, .func (fnOf name qual params body scope dV kV doc pm an cdv ct), osl⟩)
    (hcd : codeIn (Mine.hd.heap_39 w.params) cdv qual = true) (hroom : A.depth < recursionLimit)
    (hbind : bindArgs (fnOf name qual params body scope dV kV doc pm an cdv ct) ⟨vals, []⟩ = pure binds) (hps : binds.reverse = ps) (hloc : ∀ y ∈ binds, scope.names.lookup y.1 = some .local)
    (h : ∀ g L' h₁ tk, Sit w (A.deeper (envOf qual scope L' f cdv)) g L' → Fr g L' h₁ (kstB (fun _ => none) ps) → News g L' h₁ news → (∀ p ∈ news, p.1 < L') →
      wpAny (model PG w) (A.deeper (envOf qual scope L' f cdv)) (execs body (envOf qual scope L' f cdv))
        (Out h₀ L m g Q) (fun _ _ => False) { s with heap := h₁, toks := tk })
    (hco : scope.isCoroutine = false := by rfl) (hgen : scope.isGenerator = false := by rfl) (hk : scope.kind = .function := by rfl)
    (hcell : ∀ x ∈ scope.names, x.2 ≠ .cell := by decide) :
    wpAny (model PG w) A (call (.ref f) vals) Q E s := by
  refine cps fun P9 k9 => ?_
  obtain ⟨A₀, base, outer, env, loose, mean, mg, mb, B, hA, hf, hke, X₀, T⟩ := G.ex
  refine k9 ?_
  clear k9 P9
  refine wpAny_call (callX_plain (cl := []) B F N T.nolimit hA hf hke ((X₀.keeps F.keep) _ _ ho) rfl (codeRec_of (X₀.keeps F.keep) hcd) hroom (BindsTo.of_eq hbind) hloc (fun g L' h₁ FG F' N' B' st hlt => ?_) hcell hco hgen hk)
  subst hps
  have hmap := lookup_kst binds.reverse
  refine wpAny_mono (h g L' h₁ _ ⟨G.hh, ⟨A, base, env :: outer, _, loose, mean, mg, mb, B', Around.frames_deeper hA, rfl, hk, X₀.keeps st, T.keeps st⟩⟩ (hmap ▸ F') N' hlt) (fun fl s' x => by obtain ⟨L', m', news', a, b, c⟩ := x; cases fl <;> exact ⟨L', m', news', a, b, c⟩) (fun _ _ x => x.elim)
/-- a test's end: what it tells, its frame and ledger -/
def TestEnd (h₀ : Heap) (L : Addr) (m : Str → Option Value) (news : List (Addr × Obj)) (s : Shared) (P : Bool → Prop) (b : Bool) (s' : Shared) : Prop :=
  P b ∧ ∃ h tk, s' = { s with heap := h, toks := tk } ∧ Fr h₀ L h m ∧ News h₀ L h news
theorem test_end {h₀ : Heap} {L : Addr} {m : Str → Option Value} {news : List (Addr × Obj)} {s : Shared} {P : Bool → Prop} {b : Bool} {h : Heap} {tk : Nat} (F : Fr h₀ L h m) (N : News h₀ L h news) (p : P b) : TestEnd h₀ L m news s P b { s with heap := h, toks := tk } := ⟨p, h, tk, rfl, F, N⟩
theorem test_cut {M : Model} {A : Around} {t : Sem Bool} {Q : Bool → Shared → Prop} {E : Value → Shared → Prop} {h₀ : Heap} {L : Addr} {m : Str → Option Value} {news : List (Addr × Obj)} {s : Shared} {h : Heap} {tk : Nat} (P : Bool → Prop) (F : Fr h₀ L h m) (N : News h₀ L h news)
    (h1 : wpAny M A t (TestEnd h₀ L m news s P) E { s with heap := h, toks := tk }) (h2 : ∀ b h tk, P b → Fr h₀ L h m → News h₀ L h news → Q b { s with heap := h, toks := tk }) : wpAny M A t Q E { s with heap := h, toks := tk } :=
  wpAny_mono h1 (fun b s' x => by
    refine cps fun P k => ?_
    obtain ⟨p, h, tk, rfl, F, N⟩ := x
    exact k (h2 b h tk p F N)) (fun _ _ x => x)
/-- the ledger with what lies at l put anew -/
def put (l : Addr) (o : Obj) (news : List (Addr × Obj)) : List (Addr × Obj) := (l, o) :: news.filter fun p => p.1 != l
theorem mem_put {l : Addr} {o : Obj} {news : List (Addr × Obj)} {p : Addr × Obj} (h : p ∈ news) (hne : p.1 ≠ l) : p ∈ put l o news :=
  List.mem_cons_of_mem _ (List.mem_filter.mpr ⟨h, by simpa using hne⟩)
theorem put_mem {l : Addr} {o : Obj} {news : List (Addr × Obj)} : (l, o) ∈ put l o news := List.mem_cons_self
theorem put_put {l : Addr} {o o' : Obj} {news : List (Addr × Obj)} : put l o' (put l o news) = put l o' news := by
  unfold put
  rw [List.filter_cons]
  simp
theorem News.sub {h₀ h : Heap} {L : Addr} {news news' : List (Addr × Obj)} (N : News h₀ L h news) (hs : ∀ p ∈ news', p ∈ news) : News h₀ L h news' := fun p hp => N p (hs p hp)
theorem put_news {h₀ h : Heap} {L l : Addr} {o : Obj} {news : List (Addr × Obj)} (N : News h₀ L h news) (hm : (l, o) ∈ news) : News h₀ L h (put l o news) :=
  fun p hp => by
    rcases List.mem_cons.mp hp with rfl | hp
    · exact N _ hm
    · exact N _ (List.mem_filter.mp hp).1
theorem put_sub {h₀ h : Heap} {L l : Addr} {o o' : Obj} {news : List (Addr × Obj)} {d : Addr × Obj} (N : News h₀ L h (put l o (d :: put l o' news))) : News h₀ L h (put l o news) :=
  fun p hp => by
    rcases List.mem_cons.mp hp with rfl | hp
    · exact N _ put_mem
    · have h9 := List.mem_filter.mp hp
      have hne : p.1 ≠ l := by simpa using h9.2
      exact N _ (mem_put (List.mem_cons_of_mem _ (mem_put h9.1 hne)) hne)
theorem put_upd {l : Addr} {o o' : Obj} {news : List (Addr × Obj)} : Upd l o o' (put l o news) (put l o' news) :=
  Upd.head fun p hp => by simpa using (List.mem_filter.mp hp).2
section
variable {w : World} {A : Around} {E : Value → Shared → Prop} {s : Shared} {h₀ : Heap} {L l : Addr} {m : Str → Option Value} {news : List (Addr × Obj)} {vs : List Value} {n : Nat}
theorem m_isList (N : News h₀ L s.heap news) (hm : (l, lst vs n) ∈ news) : s.heap.IsList l vs.toArray := ⟨_, (N _ hm).1, rfl, n, rfl⟩
theorem m_len {Q : Value → Shared → Prop} (N : News h₀ L s.heap news := by assumption) (hm : (l, lst vs n) ∈ news := by walk_at "member") (hz : vs.length ≤ 1000 := by walk_at "fits")
    (h : ∀ t, Q (.int (vs.length : Nat) t) { s with toks := s.toks + 1 + 1 }) : wpAny (model PG w) A (call (.builtin "len") [.ref l]) Q E s :=
  len_list (m_isList N hm) (by rw [List.size_toArray]; lia) (by rw [List.size_toArray]; exact h _)
theorem m_truthy {Q : Bool → Shared → Prop} (N : News h₀ L s.heap news) (hm : (l, lst vs n) ∈ news) (hz : vs.length ≤ 1000)
    (h : Q (!vs.isEmpty) { s with toks := s.toks + 1 + 1 }) : wpAny (model PG w) A (truthy (.ref l)) Q E s :=
  wpAny_truthy_list (m_isList N hm) (by rw [List.size_toArray]; lia) (by
    have e : vs.toArray.isEmpty = vs.isEmpty := by cases vs <;> rfl
    rw [e]; exact h)
theorem m_get {value slice : PySem.Expr} {k : Int} {u : Tok} {Q : Value → Shared → Prop} (N : News h₀ L s.heap news := by assumption) (hm : (l, lst vs n) ∈ news := by walk_at "member") (hz : vs.length ≤ 1000 := by walk_at "fits") (h0 : 0 ≤ k := by walk_at "fits") (h1 : k < (vs.length : Int) := by walk_at "fits") (h : Q (vs.getD k.toNat .none) s)
    (hs : subscripted slice false (.ref l) (.int k u) = operate [.ref l, .int k u] (getItem (.ref l) (.int k u)) := by with_unfolding_all rfl) :
    wpAny (model PG w) A (subscriptTail value slice (.ref l) (.int k u)) Q E s :=
  tail_any (m_isList N hm).typeIs slot_list_getitem.lookup (wpAny_getItem_list (x := vs.getD k.toNat .none) (m_isList N hm) h0 (by lia) (by
    have hk : k.toNat < vs.length := by lia
    rw [List.getElem?_toArray, List.getElem?_eq_getElem hk]
    simp [List.getD, List.getElem?_eq_getElem hk]) h) hs
theorem m_getI {value slice : PySem.Expr} {k : Int} {u : Tok} {ns : List Int} {Q : Value → Shared → Prop} (N : News h₀ L s.heap news := by assumption) (hm : (l, lst vs n) ∈ news := by walk_at "member") (hI : IntsAre vs ns := by assumption) (hz : ns.length ≤ 1000 := by walk_at "fits") (h0 : 0 ≤ k := by walk_at "fits") (h1 : k < (ns.length : Int) := by walk_at "fits") (h : ∀ t, Q (.int (ns.getD k.toNat 0) t) s)
    (hs : subscripted slice false (.ref l) (.int k u) = operate [.ref l, .int k u] (getItem (.ref l) (.int k u)) := by with_unfolding_all rfl) :
    wpAny (model PG w) A (subscriptTail value slice (.ref l) (.int k u)) Q E s :=
  ksa_sub N hm hI h0 h1 (by lia) h hs
theorem m_lenI {ns : List Int} {Q : Value → Shared → Prop} (N : News h₀ L s.heap news := by assumption) (hm : (l, lst vs n) ∈ news := by walk_at "member") (hI : IntsAre vs ns := by assumption) (hz : ns.length ≤ 1000 := by walk_at "fits")
    (h : ∀ t, Q (.int (ns.length : Nat) t) { s with toks := s.toks + 1 + 1 }) : wpAny (model PG w) A (call (.builtin "len") [.ref l]) Q E s :=
  m_len N hm (by rw [hI.length]; exact hz) (by rw [hI.length]; exact h)
theorem mul_m {a b : Int} {t u : Tok} {Q : Value → Shared → Prop} (ha : a.natAbs < 2 ^ 64) (h : ∀ t, Q (.int (a * b) t) { s with toks := s.toks + 1 }) : wpAny (model PG w) A (binaryOp .Mult (.int a t) (.int b u)) Q E s :=
  PyProof.Rows.mul_int (h _) (IntMulOk.of_left (intBits_le_iff.mpr ha))
theorem fmod_nat (a b : Nat) : Int.fmod (a : Int) (b : Int) = ((a % b : Nat) : Int) := by
  rw [Int.fmod_eq_emod_of_nonneg _ (Int.natCast_nonneg b)]; rfl
theorem fdiv_nat (a b : Nat) : Int.fdiv (a : Int) (b : Int) = ((a / b : Nat) : Int) := by
  rw [Int.fdiv_eq_ediv_of_nonneg _ (Int.natCast_nonneg b)]; rfl
theorem fdiv_m {a b : Nat} {t u : Tok} {Q : Value → Shared → Prop} (hb : 0 < b) (hb2 : b < 1073741824) (h : ∀ t, Q (.int ((a / b : Nat) : Int) t) { s with toks := s.toks + 1 }) :
    wpAny (model PG w) A (binaryOp .FloorDiv (.int (a : Nat) t) (.int (b : Nat) u)) Q E s :=
  PyProof.Rows.floordiv_int (by lia) (by rw [fdiv_nat]; exact h _) (Or.inl (PyProof.noPylong_small (by lia)))
theorem fmod_m {a b : Nat} {t u : Tok} {Q : Value → Shared → Prop} (hb : 0 < b) (h : ∀ t, Q (.int ((a % b : Nat) : Int) t) { s with toks := s.toks + 1 }) :
    wpAny (model PG w) A (binaryOp .Mod (.int (a : Nat) t) (.int (b : Nat) u)) Q E s :=
  PyProof.Rows.mod_int (by lia) (by rw [fmod_nat]; exact h _)
theorem m_set {k : Int} {t : Tok} {v : Value} {Q : Unit → Shared → Prop} (F : Fr h₀ L s.heap m) (N : News h₀ L s.heap news) (hm : (l, lst vs n) ∈ news) (hz : vs.length ≤ 1000) (h0 : 0 ≤ k) (h1 : k < (vs.length : Int))
    (h : ∀ h', Fr h₀ L h' m → News h₀ L h' (put l (lst (vs.set k.toNat v) n) news) → Q () { s with heap := h' }) : wpAny (model PG w) A (setItem (.ref l) (.int k t) v) Q E s := by
  have N' := put_news N hm
  have U := put_upd (l := l) (o := lst vs n) (o' := lst (vs.set k.toNat v) n) (news := news)
  refine cps fun P9 k9 => ?_
  obtain ⟨pre, post, e1, e2, a, b⟩ := U.split
  refine k9 ?_
  clear k9 P9
  rw [e1] at N'
  have z := N _ hm
  refine ki_setAt z.1 h0 (by lia) (by rw [List.size_toArray]; exact h1) (h _ (F.change (Heap.SameBut.update ..) z.2.1 z.2.2) (e2 ▸ ki_turn _ N' a b ?_ ?_))
  · show vs.toArray.setIfInBounds k.toNat v = (vs.set k.toNat v).toArray
    apply Array.toList_inj.mp
    simp
  · simp
theorem m_append {x : Value} {Q : Value → Shared → Prop} (F : Fr h₀ L s.heap m) (N : News h₀ L s.heap news) (hm : (l, lst vs n) ∈ news) (hz : vs.length ≤ 1000)
    (h : ∀ h', Fr h₀ L h' m → News h₀ L h' (put l (lst (vs ++ [x]) (n + 1)) news) → Q .none { s with heap := h' }) : wpAny (model PG w) A (call (.builtin "list.append") [.ref l, x]) Q E s := by
  have e : vs.toArray.push x = (vs ++ [x]).toArray := by simp
  refine append_K (n := n) (its := vs.toArray) F (put_news N hm) (e ▸ put_upd) h (by rw [List.size_toArray]; unfold sizeLine; lia)
theorem m_appendI {x : Value} {k : Int} {t : Tok} {news' : List (Addr × Obj)} {Q : Value → Shared → Prop} (hx : x = .int k t := by with_reducible rfl) (F : Fr h₀ L s.heap m := by assumption) (N : News h₀ L s.heap news := by assumption) (hm : (l, lst vs n) ∈ news := by walk_at "member") (hz : vs.length ≤ 1000 := by walk_at "fits")
    (hn : put l (lst (vs ++ [.int k t]) (n + 1)) news = news' := by first | exact put_put | rfl)
    (h : ∀ h', Fr h₀ L h' m → News h₀ L h' news' → Q .none { s with heap := h' }) : wpAny (model PG w) A (call (.builtin "list.append") [.ref l, x]) Q E s := by
  subst hx
  exact m_append F N hm hz (hn ▸ h)
theorem m_pop {x : Value} {Q : Value → Shared → Prop} (F : Fr h₀ L s.heap m) (N : News h₀ L s.heap news) (hm : (l, lst (vs ++ [x]) n) ∈ news) (hz : vs.length ≤ 1000)
    (h : ∀ h', Fr h₀ L h' m → News h₀ L h' (put l (lst vs (n + 1)) news) → Q x { s with heap := h' }) : wpAny (model PG w) A (call (.builtin "list.pop") [.ref l]) Q E s :=
  kl_pop (n := n) (its := (vs ++ [x]).toArray) F (put_news N hm) (kpa_last x vs) put_upd (by show (vs ++ [x]).length ≤ sizeLine; rw [List.length_append, List.length_singleton]; unfold sizeLine; lia) h
theorem m_method {nm name : Str} {id : String} {pl : Sem Bool} {Q : Value × List Value → Shared → Prop} (slot : Slot "list" name id) (hty : typeOf (.builtin id) = pure (.type "method_descriptor")) (hnm : nm = name := by with_reducible rfl) (N : News h₀ L s.heap news := by assumption) (hm : (l, lst vs n) ∈ news := by walk_at "member")
    (h : Q (.builtin id, [.ref l]) s) : wpAny (model PG w) A (getMethod (.ref l) nm pl) Q E s := hnm ▸ kl_method (its := vs.toArray) N hm slot hty h
end
theorem room0 {A : Around} {n k : Nat} (h : A.depth + n < recursionLimit) (hk : k ≤ n) : A.depth + k < recursionLimit := Nat.lt_of_le_of_lt (Nat.add_le_add_left hk _) h
theorem room1 {A : Around} {env : Env} {n k : Nat} (h : A.depth + n < recursionLimit) (hk : k + 1 ≤ n) : (A.deeper env).depth + k < recursionLimit := by
  have e : (A.deeper env).depth + k = A.depth + (k + 1) := by rw [depth_deeper, Nat.add_assoc, Nat.add_comm 1 k]
  rw [e]; exact room0 h hk
theorem roomu0 {A : Around} {n k : Nat} (h : A.units + n < cLine) (hk : k ≤ n) : A.units + k < cLine := Nat.lt_of_le_of_lt (Nat.add_le_add_left hk _) h
theorem roomu1 {A : Around} {env : Env} {n k : Nat} (h : A.units + n < cLine) (hk : k + 3 ≤ n) : (A.deeper env).units + k < cLine := by
  have e : (A.deeper env).units + k = A.units + (k + 3) := by rw [units_deeper, Nat.add_assoc, Nat.add_comm 3 k]
  rw [e]; exact roomu0 h hk
theorem roomd {A : Around} {n : Nat} (h : A.depth + n < recursionLimit) : A.depth < recursionLimit := Nat.lt_of_le_of_lt (Nat.le_add_right _ _) h
/-- ahead of a statement: the count of the tokens as a variable -/
theorem gen_add {M : Model} {A : Around} {t : Sem Flow} {Q : Flow → Shared → Prop} {E : Value → Shared → Prop} {h : Heap} {g : Array GenState} {d : Drawn} {o : OsState} {a b : Nat} (H : ∀ k, wpAny M A t Q E ⟨h, g, d, k, o⟩) : wpAny M A t Q E ⟨h, g, d, a + b, o⟩ := H _
/-- ahead of a store: the value's token as a variable -/
theorem gen_ti {M : Model} {A : Around} {Q : Unit → Shared → Prop} {E : Value → Shared → Prop} {s S : Shared} {env : Env} {x : Str} {v : Int} (H : ∀ t, wpAny M A (storeName env x (.int v t)) Q E s) : wpAny M A (storeName env x (.int v (Shared.toks S))) Q E s := H _
theorem gen_ts {M : Model} {A : Around} {Q : Unit → Shared → Prop} {E : Value → Shared → Prop} {s S : Shared} {env : Env} {x : Str} {v : Str} (H : ∀ t, wpAny M A (storeName env x (.str v t)) Q E s) : wpAny M A (storeName env x (.str v (Shared.toks S))) Q E s := H _
theorem par_lt_len {q n : Nat} (h : q < n) : (q - 1) / 2 < n := Nat.lt_of_le_of_lt (Nat.le_trans (Nat.div_le_self _ _) (Nat.sub_le _ _)) h
theorem par_lt {a q : Nat} (h : a < q) : (q - 1) / 2 < q := Nat.lt_of_le_of_lt (Nat.div_le_self _ _) (Nat.sub_lt (Nat.lt_of_le_of_lt (Nat.zero_le _) h) (by decide))
set_option pp.deepTerms false
set_option pp.deepTerms.threshold 4
local macro_rules | `(tactic| walk_at "room") => `(tactic| (first | exact room1 (by assumption) (by decide) | exact room0 (by assumption) (by decide) | exact roomu1 (by assumption) (by decide) | exact roomu0 (by assumption) (by decide) | exact roomd (by assumption) | lia | (simp only [depth_deeper, units_deeper, Around.mark_units]; lia)))
local macro_rules | `(tactic| walk_at "enter") => `(tactic| (intro g' L' h' tk' G' F' N' lt'; refine Sit.elim G' ?_; intros; (try dsimp only [kstB_cons, kstB_nil] at F'); (try dsimp only); (try k_fold)))
local macro_rules | `(tactic| walk_at "exec While Compare cons nil") => `(tactic| refine Stop.mk ?_)
local macro_rules | `(tactic| walk_at "exec While Constant cons nil") => `(tactic| refine Stop.mk ?_)
local macro_rules | `(tactic| walk_at "exec While Name cons nil") => `(tactic| refine Stop.mk ?_)
local macro_rules | `(tactic| walk_at "exec While BoolOp cons nil") => `(tactic| refine Stop.mk ?_)
local macro_rules | `(tactic| walk_at "call ref") => `(tactic| refine stop_call ?_)
local macro_rules | `(tactic| walk_at "member") => `(tactic| (first | assumption | exact put_mem | exact List.mem_cons_self | (refine List.mem_append_right _ ?_; walk_at "member") | (refine List.mem_append_left _ ?_; walk_at "member") | (refine List.mem_cons_of_mem _ ?_; walk_at "member") | (refine mem_put ?_ ?_ <;> first | assumption | lia)))
local macro_rules | `(tactic| walk_at "fits") => `(tactic| (first | assumption | exact Int.natCast_nonneg _ | lia | (simp only [List.length_map, List.length_append, List.length_set, List.length_cons, List.length_nil, List.length_dropLast, List.length_range] at * <;> lia)))
local macro_rules | `(tactic| walk_at "call builtin:len") => `(tactic| (first | refine m_lenI (h := ?_) | refine m_len (h := ?_)) <;> intro)
local macro_rules | `(tactic| walk_at "mget") => `(tactic| (first | (refine m_getI (h := ?_); intro) | refine m_get (h := ?_)))
local macro_rules | `(tactic| walk_at "subscriptTail Name Name ref int") => `(tactic| walk_at "mget")
local macro_rules | `(tactic| walk_at "subscriptTail Name Constant ref int") => `(tactic| walk_at "mget")
local macro_rules | `(tactic| walk_at "subscriptTail Name BinOp ref int") => `(tactic| walk_at "mget")
local macro_rules | `(tactic| walk_at "getMethod ref") => `(tactic| (first | refine m_method PySem.F.slot_list_append PySem.F.type_list_append (h := ?_) | refine m_method PySem.F.slot_list_pop PySem.F.type_list_pop (h := ?_) | refine m_method PySem.F.slot_list_remove PySem.F.type_list_remove (h := ?_) | refine m_method PySem.F.slot_list_extend PySem.F.type_list_extend (h := ?_)))
local macro_rules | `(tactic| walk_at "call builtin:list.append") => `(tactic| (refine m_appendI (h := ?_); intros))
local macro_rules | `(tactic| walk_at "execs cons") => `(tactic| ((try k_fold); (with_reducible refine wpAny_execs_cons ?_); k_fold))
local macro_rules | `(tactic| walk_at "execs cons") => `(tactic| (with_reducible refine gen_add ?_; (try dsimp only); (try clear $(Lean.mkIdent `tkz)); intro $(Lean.mkIdent `tkz):ident))
local macro_rules | `(tactic| walk_at "storeName") => `(tactic| ((with_reducible first | refine gen_ti ?_ | refine gen_ts ?_); intro))
local macro_rules | `(tactic| walk_at "eval Name") => `(tactic| (k_here; k_dflt (refine' nameX_L ?F ?v ?_ ?a ?b; (case F => k_asm); (case a => rfl); (case b => rfl); (case v => exact Eq.refl (some _)); k_whole)))
def ForEnd {σ : Type} (h₀ : Heap) (L : Addr) (s : Shared) (own : List (Addr × Obj)) (Led : σ → List (Addr × Obj)) (ps : σ → List (Str × Value)) (x : Str) (stored : List Str) (m₀ : Str → Option Value) (Inv : Nat → σ → Prop) (i : Nat) (s₂ : Shared) : Prop :=
  ∃ (c' : σ) (h' : Heap) (tk : Nat) (m' : Str → Option Value) (news' : List (Addr × Obj)), s₂ = { s with heap := h', toks := tk } ∧ Fr h₀ L h' m' ∧ News h₀ L h' news' ∧ (∀ p ∈ own ++ Led c', p ∈ news') ∧ (∀ p ∈ ps c', m' p.1 = some p.2) ∧ (∀ z, z ≠ x → (∀ p ∈ ps c', z ≠ p.1) → stored.contains z = false → m' z = m₀ z) ∧ Inv i c'
def ForPost {σ : Type} (h₀ : Heap) (L : Addr) (s : Shared) (own : List (Addr × Obj)) (Led : σ → List (Addr × Obj)) (ps : σ → List (Str × Value)) (x : Str) (stored : List Str) (m₀ : Str → Option Value) (Inv : Nat → σ → Prop) (i : Nat) (Q : Flow → Shared → Prop) (f : Flow) (s₂ : Shared) : Prop :=
  match f with
  | .ret v => Q (.ret v) s₂
  | .brk => Q .next s₂
  | _ => ForEnd h₀ L s own Led ps x stored m₀ Inv i s₂
theorem for_end {σ : Type} {h₀ : Heap} {L : Addr} {s : Shared} {own : List (Addr × Obj)} {Led : σ → List (Addr × Obj)} {ps : σ → List (Str × Value)} {x : Str} {stored : List Str} {m₀ m' : Str → Option Value} {Inv : Nat → σ → Prop} {i : Nat} {h' : Heap} {tk : Nat} {news' : List (Addr × Obj)} (c' : σ)
    (F : Fr h₀ L h' m') (N : News h₀ L h' news') (hn : ∀ p ∈ own ++ Led c', p ∈ news') (hk : ∀ p ∈ ps c', m' p.1 = some p.2) (hr : ∀ z, z ≠ x → (∀ p ∈ ps c', z ≠ p.1) → stored.contains z = false → m' z = m₀ z) (hp : Inv i c') :
    ForEnd h₀ L s own Led ps x stored m₀ Inv i { s with heap := h', toks := tk } := ⟨c', h', tk, m', news', rfl, F, N, hn, hk, hr, hp⟩
/-- what holds between the turns -/
def LJ {σ : Type} (Led : σ → List (Addr × Obj)) (ps : σ → List (Str × Value)) (x : Str) (stored : List Str) (m₀ : Str → Option Value) (Inv : Nat → σ → Prop) (i : Nat) (m : Str → Option Value) (nx : List (Addr × Obj)) : Prop :=
  ∃ c : σ, nx = Led c ∧ (∀ p ∈ ps c, m p.1 = some p.2) ∧ (∀ z, z ≠ x → (∀ p ∈ ps c, z ≠ p.1) → stored.contains z = false → m z = m₀ z) ∧ Inv i c
theorem LJ.elim {σ : Type} {Led : σ → List (Addr × Obj)} {ps : σ → List (Str × Value)} {x : Str} {stored : List Str} {m₀ : Str → Option Value} {Inv : Nat → σ → Prop} {i : Nat} {m : Str → Option Value} {nx : List (Addr × Obj)} {P : Prop} (j : LJ Led ps x stored m₀ Inv i m nx)
    (k : ∀ c, nx = Led c → (∀ p ∈ ps c, m p.1 = some p.2) → (∀ z, z ≠ x → (∀ p ∈ ps c, z ≠ p.1) → stored.contains z = false → m z = m₀ z) → Inv i c → P) : P := by
  obtain ⟨c, a, b, d, e⟩ := j
  exact k c a b d e
theorem for_step {σ : Type} {h₀ : Heap} {L : Addr} {s s₃ : Shared} {own : List (Addr × Obj)} {Led : σ → List (Addr × Obj)} {ps : σ → List (Str × Value)} {x : Str} {stored : List Str} {m₀ : Str → Option Value} {Inv : Nat → σ → Prop} {i : Nat} {wr : List Addr} {h : Heap} {tk : Nat}
    (hoff : ∀ c, Inv i c → ∀ p ∈ Led c, p.1 ∉ wr) (e : ForEnd h₀ L s own Led ps x stored m₀ Inv i s₃) : LoopStepU h₀ L wr own (LJ Led ps x stored m₀ Inv i) { s with heap := h, toks := tk } .next s₃ := by
  refine cps fun P k => ?_
  obtain ⟨c', h', tk', m', news', rfl, F', N', hn, k1, k2, k3⟩ := e
  exact k (.intro F' (fun p hp => N' p (hn p hp)) (hoff c' k3) ⟨c', rfl, k1, k2, k3⟩)
/-- a for over whatever walks, by an invariant over its whole state -/
theorem loop_at {w : World} {A : Around} {E : Value → Shared → Prop} {Q : Flow → Shared → Prop} {s : Shared} {env : Env} {h₀ : Heap} {x : Str} {body : List Stmt} {σ : Type} {I : Addr} {fp wr : List Addr} {n : Nat} {P : Nat → Value → Prop} {St : Nat → Heap → Prop} {m₀ : Str → Option Value}
    (W : Walks PG w A I fp wr n P St) (Led : σ → List (Addr × Obj)) (ps : σ → List (Str × Value)) (stored : List Str) (Inv : Nat → σ → Prop) (c₀ : σ)
    (hLf : env.locals ∉ fp) (hwr : ∀ b ∈ wr, h₀.get? b = none) (hst : St 0 s.heap) (F : Fr h₀ env.locals s.heap m₀) (N : News h₀ env.locals s.heap (Led c₀)) (hoff : ∀ i c, Inv i c → ∀ p ∈ Led c, p.1 ∉ wr)
    (hk : ∀ p ∈ ps c₀, m₀ p.1 = some p.2) (hi : Inv 0 c₀)
    (turn : ∀ i c v (u : Str → Option Value) h tk own, i < n → P i v → Inv i c → (∀ p ∈ own, p.1 ∈ fp) → (∀ b ∈ fp, h₀.get? b = none → ∀ o, h.get? b = some o → (b, o) ∈ own) → St (i + 1) h →
      Fr h₀ env.locals h (fun y => if y = x then some v else kstB (fun z => if stored.contains z then u z else m₀ z) (ps c) y) → News h₀ env.locals h (own ++ Led c) →
      wpAny (model PG w) A (execs body env) (ForPost h₀ env.locals s own Led ps x stored m₀ Inv (i + 1) Q) E { s with heap := h, toks := tk })
    (fin : ∀ c (u : Str → Option Value) h tk, Inv n c → Fr h₀ env.locals h (fun y => if y = x then u y else kstB (fun z => if stored.contains z then u z else m₀ z) (ps c) y) → News h₀ env.locals h (Led c) → Q .next { s with heap := h, toks := tk }) :
    LoopAtV PG w A h₀ env x body Q E (.ref I) s := by
  refine ⟨I, fp, wr, n, P, St, m₀, Led c₀, LJ Led ps x stored m₀ Inv, rfl, W, hLf, hwr, hoff 0 c₀ hi, hst, F, N, ⟨c₀, rfl, hk, fun _ _ _ _ => rfl, hi⟩, ?_, ?_⟩
  · intro i v m₁ news₁ s₁ own hs hi' hP j _ hown _ hall hSt F₁ N₁
    obtain ⟨h, tk, rfl⟩ := hs
    refine LJ.elim j fun c e h1 h2 h3 => ?_
    subst e
    refine wpAny_mono (turn i c v m₁ h tk own hi' hP h3 hown hall hSt (kst_fr h1 h2 F₁) N₁) (fun f s₃ h₃ => ?_) fun _ _ e => e
    cases f with
    | ret v => exact h₃
    | brk => exact h₃
    | cont => exact for_step (hoff (i + 1)) h₃
    | next => exact for_step (hoff (i + 1)) h₃
  · intro h' tk m' news' F' N' _ j
    refine LJ.elim j fun c e h1 h2 h3 => ?_
    subst e
    exact fin c m' h' tk h3 (kst_frOut h1 h2 F') N'
local macro_rules | `(tactic| walk_at "ForPost") => `(tactic| (dsimp only [ForPost]))
theorem sub_ri_reversed : isSubtype (.type "range_iterator") (.type "reversed") = pure false := by rw [isSubtype_type]; kernel_rfl
abbrev rangeIt (x left step : Int) : Obj := { cls := .type "range_iterator", data := .fields #[rawInt x, rawInt left, rawInt step] }
section
variable {w : World} {A : Around} {E : Value → Shared → Prop} {s : Shared}
theorem rangeFields_m {M : Model} {r : Addr} {a b c : Int} {t u v : Tok} {Q : Int × Int × Int → Shared → Prop} (hr : IsRange s.heap r a b c t u v) (h : Q (a, b, c) s) : wpAny M A (Builtin.Range.rangeFields (.ref r)) Q E s := by
  unfold Builtin.Range.rangeFields
  refine wpAny_bind (wpAny_field hr rfl (x := .int a t) rfl ?_)
  refine wpAny_bind (wpAny_of_eq (a := some a) rfl ?_)
  refine wpAny_bind (wpAny_field hr rfl (x := .int b u) rfl ?_)
  refine wpAny_bind (wpAny_of_eq (a := some b) rfl ?_)
  refine wpAny_bind (wpAny_field hr rfl (x := .int c v) rfl ?_)
  refine wpAny_bind (wpAny_of_eq (a := some c) rfl ?_)
  exact wpAny_pure h
theorem fitsLong_nat {n : Nat} (hn : n ≤ 1000) : Builtin.Range.rangeFitsLong (n : Int) = true := by
  unfold Builtin.Range.rangeFitsLong
  have e63 : (2 : Int) ^ 63 = 9223372036854775808 := by decide +kernel
  rw [e63]
  have a1 : (-9223372036854775808 : Int) ≤ (n : Int) := by lia
  have a2 : (n : Int) < 9223372036854775808 := by lia
  exact Bool.and_eq_true_iff.mpr ⟨decide_eq_true a1, decide_eq_true a2⟩
theorem call_range_reversed {r : Addr} {n : Nat} {t u v : Tok} {Q : Value → Shared → Prop} (hr : IsRange s.heap r 0 (n : Nat) 1 t u v) (hn : n ≤ 1000)
    (h : Q (.ref s.heap.objs.size) { s with heap := s.heap.push (rangeIt ((n : Int) - 1) n (-1)) }) : wpAny (model PG w) A (call (.builtin "range.__reversed__") [.ref r]) Q E s := by
  have hT : s.TypeIs (.ref r) "range" := ⟨_, hr, rfl⟩
  have hsz : Builtin.Range.rangeSize 0 (n : Int) 1 = n := by
    unfold Builtin.Range.rangeSize
    rw [if_pos (by decide)]
    by_cases h0 : (0 : Int) < n
    · rw [if_pos h0]; lia
    · rw [if_neg h0]; lia
  refine wpAny_call_entry F.slot_range_reversed hT F.entry_range_reversed ?_ (F.args_range_reversed_1 _)
  unfold Builtin.«range.__reversed__»
  refine wpAny_bind (wpAny_of_eq (a := Value.ref r) rfl ?_)
  refine wpAny_bind (rangeFields_m hr ?_)
  generalize hB : Builtin.Range.rangeFitsLong = fl
  have hsm : (fl 0 && fl (n : Int) && fl 1 && fl (-1) && fl (0 - 1) && fl (n : Int)) = true := by
    rw [← hB, fitsLong_nat hn]; decide +kernel
  dsimp only
  rw [hsz, hsm]
  simp only [Bool.not_true, Bool.false_eq_true, if_false, if_true]
  have e1 : (0 : Int) + ((n : Int) - 1) * 1 = (n : Int) - 1 := by lia
  rw [e1]
  exact wpAny_bind (wpAny_newObj_type (wpAny_pure ⟨_, rfl, h⟩))
theorem code_reversed_range {r : Addr} {n : Nat} {t u v : Tok} {Q₁ : Value → Shared → Prop} (hr : IsRange s.heap r 0 (n : Nat) 1 t u v) (hn : n ≤ 1000)
    (h : Q₁ (.ref s.heap.objs.size) { s with heap := s.heap.push (rangeIt ((n : Int) - 1) n (-1)) }) :
    codeAny (model PG w) A (.call (.builtin "reversed.__new__") ⟨[.type "reversed", .ref r], []⟩) (wants Q₁ E) s := by
  have hT : s.TypeIs (.ref r) "range" := ⟨_, hr, rfl⟩
  refine codeAny_of_tree ?_
  show wpAny _ A.in1 (do checkBuiltinCall "reversed.__new__" ⟨[.type "reversed", .ref r], []⟩; again (.builtin "reversed.__new__" ⟨[.type "reversed", .ref r], []⟩)) _ _ s
  refine wpAny_bind (wpAny_of_eq (F.newCall_reversed_1 _) (wpAny_pure ⟨plainId_quiet F.plain_reversed_new _, codeAny_builtin F.entry_reversed_new ?_⟩))
  rw [Around.under_plainId F.plain_reversed_new _]
  unfold Builtin.«reversed.__new__»
  refine wpAny_bind (wpAny_of_eq (newClass_reversed _) ?_)
  try dsimp only
  refine wpAny_bind (wpAny_of_eq (a := ()) (by first | rfl | kernel_rfl) ?_)
  refine wpAny_bind (wpAny_of_eq (a := ()) (by first | rfl | kernel_rfl) ?_)
  try dsimp only
  refine wpAny_bind (wpAny_specialOf hT F.slot_range_reversed.lookup ?_)
  try dsimp only
  refine wpAny_bind (wpAny_of_eq (F.slot_range_reversed.bind _) ?_)
  try dsimp only
  first
  | rw [if_neg (show ¬ ((Value.builtin "range.__reversed__" == Value.none) = true) from Bool.false_ne_true)]
  | (show wpAny _ _ (if (Value.builtin "range.__reversed__" == Value.none) = true then _ else _) _ _ _; rw [if_neg (show ¬ ((Value.builtin "range.__reversed__" == Value.none) = true) from Bool.false_ne_true)])
  refine wpAny_bind (wpAny_rule ?_)
  refine wpAny_bind (m := runValue (.call (.builtin "range.__reversed__") ⟨[.ref r], []⟩)) (show wpAny _ _ (call (.builtin "range.__reversed__") [.ref r]) _ _ _ from call_range_reversed hr hn ?_)
  first
  | exact wpAny_pure h
  | exact wpAny_bind (wpAny_pure (wpAny_pure h))
theorem call_reversed_range {r : Addr} {n : Nat} {t u v : Tok} {Q : Value → Shared → Prop} (hr : IsRange s.heap r 0 (n : Nat) 1 t u v) (hn : n ≤ 1000)
    (h : Q (.ref s.heap.objs.size) { s with heap := s.heap.push (rangeIt ((n : Int) - 1) n (-1)) }) : wpAny (model PG w) A (call (.type "reversed") [.ref r]) Q E s := by
  refine callType_other (U := "range_iterator") (Q₁ := fun obj s₁ => obj = .ref s.heap.objs.size ∧ s₁ = { s with heap := s.heap.push (rangeIt ((n : Int) - 1) n (-1)) }) (by decide +kernel) F.create_reversed ⟨_, _, F.mro_reversed⟩ F.made_reversed sub_ri_reversed (F.typeCall_reversed_1 _) (code_reversed_range hr hn ⟨rfl, rfl⟩) ?_
  rintro obj s₁ ⟨rfl, rfl⟩
  exact ⟨⟨_, Heap.get?_push_size _ rfl, rfl⟩, h⟩
end
section
variable {w : World} {A : Around} {E : Value → Shared → Prop} {s : Shared} {h₀ : Heap} {L : Addr} {m : Str → Option Value} {news : List (Addr × Obj)} {K : Value → Shared → Prop}
/-- a new object beside all that is known -/
theorem fresh_at (F : Fr h₀ L s.heap m) (N : News h₀ L s.heap news) (o : Obj) : Fr h₀ L (s.heap.push o) m ∧ News h₀ L (s.heap.push o) news ∧ (∀ p ∈ news, p.1 < s.heap.objs.size) ∧ L ≠ s.heap.objs.size ∧ h₀.get? s.heap.objs.size = none := by
  refine ⟨F.push o, fun p hp => ⟨Heap.get?_push_of_some _ (N p hp).1, (N p hp).2⟩, fun p hp => Heap.lt_size (N p hp).1, ?_, ?_⟩
  · obtain ⟨oL, _, _, hL, _⟩ := F.ns
    exact Nat.ne_of_lt (Heap.lt_size hL)
  · cases hq : h₀.get? s.heap.objs.size with
    | none => rfl
    | some o' => exact absurd (Heap.lt_size (F.keep _ _ hq)) (Nat.lt_irrefl _)
theorem rev_start {r : Addr} {n : Nat} {t u v : Tok} (hh : A.handled = none) (F : Fr h₀ L s.heap m) (N : News h₀ L s.heap news) (hr : IsRange s.heap r 0 (n : Nat) 1 t u v) (hn : n ≤ 1000)
    (k : ∀ I h', Fr h₀ L h' m → News h₀ L h' news → (∀ p ∈ news, p.1 < I) → L ≠ I → h₀.get? I = none → IsRangeIter h' I ((n : Int) - 1) n (-1) → K (.ref I) { s with heap := h' }) :
    wpAny (model PG w) A (call (.type "reversed") [.ref r]) (fun xv s₁ => wpAny (model PG w) A (pyIter xv) K E s₁) E s := by
  refine cps fun P9 k9 => ?_
  obtain ⟨a, b, c, d, e⟩ := fresh_at F N (rangeIt ((n : Int) - 1) n (-1))
  refine k9 ?_
  clear k9 P9
  have hI : IsRangeIter (s.heap.push (rangeIt ((n : Int) - 1) n (-1))) s.heap.objs.size ((n : Int) - 1) n (-1) := Heap.get?_push_size _ rfl
  refine call_reversed_range hr hn ?_
  exact (Walks.range (prog := PG) (w := w) hh _ ((n : Int) - 1) (-1) n).self 0 _ _ _ (by simpa using hI) (k _ _ a b c d e hI)
theorem list_start {l : Addr} {vs : List Value} {n : Nat} (F : Fr h₀ L s.heap m) (N : News h₀ L s.heap news) (hm : (l, lst vs n) ∈ news)
    (k : ∀ I h', Fr h₀ L h' m → News h₀ L h' news → (∀ p ∈ news, p.1 < I) → L ≠ I → h₀.get? I = none → I < h'.objs.size → h'.IsListIter I l 0 → h'.IsList l vs.toArray → K (.ref I) { s with heap := h' }) :
    wpAny (model PG w) A (pyIter (.ref l)) K E s := by
  refine wpAny_pyIter_list (m_isList N hm) ?_
  refine cps fun P9 k9 => ?_
  obtain ⟨a, b, c, d, e⟩ := fresh_at F N { cls := .type "list_iterator", data := .fields #[.ref l, rawInt 0] }
  refine k9 ?_
  clear k9 P9
  exact k _ _ a b c d e (by rw [Heap.size_push]; exact Nat.lt_succ_self _) ⟨_, Heap.get?_push_size _ rfl, rfl, rfl⟩ ⟨_, (b _ hm).1, rfl, n, rfl⟩
theorem range_start {r : Addr} {a b : Int} {n : Nat} {t u v : Tok} (F : Fr h₀ L s.heap m) (N : News h₀ L s.heap news) (hr : IsRange s.heap r a b 1 t u v) (hsm : Builtin.Range.small a b 1 = true) (hsz : Builtin.Range.rangeSize a b 1 = n)
    (k : ∀ I h', Fr h₀ L h' m → News h₀ L h' news → (∀ p ∈ news, p.1 < I) → L ≠ I → h₀.get? I = none → I < h'.objs.size → IsRangeIter h' I a n 1 → K (.ref I) { s with heap := h' }) :
    wpAny (model PG w) A (pyIter (.ref r)) K E s := by
  refine wpAny_pyIter_range hr hsm ?_
  rw [hsz]
  refine cps fun P9 k9 => ?_
  obtain ⟨a', b', c, d, e⟩ := fresh_at F N { cls := .type "range_iterator", data := .fields #[rawInt a, rawInt n, rawInt 1] }
  refine k9 ?_
  clear k9 P9
  exact k _ _ a' b' c d e (by rw [Heap.size_push]; exact Nat.lt_succ_self _) (Heap.get?_push_size _ rfl)
theorem str_start {x : Str} {t : Tok} (F : Fr h₀ L s.heap m) (N : News h₀ L s.heap news)
    (k : ∀ I h' (St : Nat → Heap → Prop), Fr h₀ L h' m → News h₀ L h' news → (∀ p ∈ news, p.1 < I) → L ≠ I → h₀.get? I = none → I < h'.objs.size → (∀ A' : Around, A'.handled = none → Walks PG w A' I [I] [I] x.cps.size (SignAt x) St) → St 0 h' → K (.ref I) { s with heap := h' }) :
    wpAny (model PG w) A (pyIter (.str x t)) K E s := by
  refine wpAny_pyIter_str fun o St W hst => ?_
  refine cps fun P9 k9 => ?_
  obtain ⟨a, b, c, d, e⟩ := fresh_at F N o
  refine k9 ?_
  clear k9 P9
  exact k _ _ St a b c d e (by rw [Heap.size_push]; exact Nat.lt_succ_self _) W hst
end
local macro_rules | `(tactic| walk_at "iterstop") => `(tactic| ((with_reducible show wpAny _ _ (pyIter _) (fun it s₂ => LoopAtV _ _ _ _ _ _ _ _ _ it s₂) _ _); refine Stop.mk ?_))
local macro_rules | `(tactic| walk_at "pyIter ref") => `(tactic| walk_at "iterstop")
local macro_rules | `(tactic| walk_at "pyIter str") => `(tactic| walk_at "iterstop")
def NsO (o : Obj) (m : Str → Option Value) : Prop := ∃ es ep, o.data = .dict es ep ∧ StrKeys es ∧ ∀ name, nsFind es name = m name
theorem NsO.ns {h : Heap} {C : Addr} {o : Obj} {m : Str → Option Value} (x : NsO o m) (e : h.get? C = some o) : h.Ns C m := by
  obtain ⟨es, ep, a, b, c⟩ := x
  exact ⟨o, es, ep, e, a, b, c⟩
theorem ns_obj {h : Heap} {C : Addr} {m : Str → Option Value} (hn : h.Ns C m) : ∃ o, h.get? C = some o ∧ NsO o m := by
  obtain ⟨o, es, ep, e, a, b, c⟩ := hn
  exact ⟨o, e, es, ep, a, b, c⟩
def CEnd {σ : Type} (h₀ : Heap) (L : Addr) (m : Str → Option Value) (s : Shared) (Led : σ → List (Addr × Obj)) (Inv : Nat → σ → List Value → Prop) (i : Nat) (keep : List (Addr × Obj)) (ys : List Value) (s₄ : Shared) : Prop :=
  ∃ c' h' tk' news', s₄ = { s with heap := h', toks := tk' } ∧ Fr h₀ L h' m ∧ News h₀ L h' news' ∧ (∀ p ∈ keep ++ Led c', p ∈ news') ∧ Inv i c' ys
theorem c_end {σ : Type} {h₀ : Heap} {L : Addr} {m : Str → Option Value} {s : Shared} {Led : σ → List (Addr × Obj)} {Inv : Nat → σ → List Value → Prop} {i : Nat} {keep : List (Addr × Obj)} {ys : List Value} {h' : Heap} {tk' : Nat} {news' : List (Addr × Obj)} (c' : σ)
    (F : Fr h₀ L h' m) (N : News h₀ L h' news') (hn : ∀ p ∈ keep ++ Led c', p ∈ news') (hi : Inv i c' ys) : CEnd h₀ L m s Led Inv i keep ys { s with heap := h', toks := tk' } := ⟨c', h', tk', news', rfl, F, N, hn, hi⟩
abbrev testsOf (ifs : List PySem.Expr) (e : Env) : Sem Bool := forIn ifs true fun c r => if r = true then do let ok ← isTrue c e (eval c e); pure (ForInStep.yield ok) else pure (ForInStep.yield r)
/-- what holds between the turns of a comprehension -/
def CJ {σ : Type} (s₂ : Shared) (h₀ : Heap) (L : Addr) (m : Str → Option Value) (n : Nat) (St : Nat → Heap → Prop) (Led : σ → List (Addr × Obj)) (Inv : Nat → σ → List Value → Prop) (k : Nat) (s' : Shared) : Prop :=
  ∃ h' tk i c ys ep mC oC, s' = { s₂ with heap := h', toks := tk } ∧ St i h' ∧ Fr h₀ L h' m ∧ News h₀ L h' ([(s₂.heap.objs.size + 1, oC), (s₂.heap.objs.size, lst ys ep)] ++ Led c) ∧ NsO oC mC ∧ Inv i c ys ∧ i ≤ n ∧ k = n + 1 - i
theorem CJ.of {σ : Type} {s₂ : Shared} {h₀ : Heap} {L : Addr} {m : Str → Option Value} {n : Nat} {St : Nat → Heap → Prop} {Led : σ → List (Addr × Obj)} {Inv : Nat → σ → List Value → Prop} {h' : Heap} {tk i : Nat} {c : σ} {ys : List Value} {ep : Nat} {mC : Str → Option Value} {oC : Obj}
    (hst : St i h') (F : Fr h₀ L h' m) (N : News h₀ L h' ([(s₂.heap.objs.size + 1, oC), (s₂.heap.objs.size, lst ys ep)] ++ Led c)) (hO : NsO oC mC) (hI : Inv i c ys) (hi : i ≤ n) : CJ s₂ h₀ L m n St Led Inv (n + 1 - i) { s₂ with heap := h', toks := tk } :=
  ⟨h', tk, i, c, ys, ep, mC, oC, rfl, hst, F, N, hO, hI, hi, rfl⟩
theorem comp_block {w : World} {A : Around} {E : Value → Shared → Prop} {s₂ : Shared} {env : Env} {h₀ : Heap} {L : Addr} {m : Str → Option Value} {elt iter : PySem.Expr} {x : Str} {px : Pos} {ifs : List PySem.Expr} {scope : Scope} {cl : List (Str × Addr)} {pos : Pos} {σ : Type}
    {I : Addr} {fp wr : List Addr} {n : Nat} {P : Nat → Value → Prop} {St : Nat → Heap → Prop} {RR : Value → Addr → Result → Shared → Prop}
    (W : Walks PG w A I fp wr n P St) (Led : σ → List (Addr × Obj)) (Inv : Nat → σ → List Value → Prop) (c₀ : σ)
    (hcell : ∀ y ∈ scope.names, y.2 ≠ .cell) (hkind : scope.kind = .function) (hx : scope.names.lookup x = some .local)
    (hst : St 0 s₂.heap) (hfp : ∀ b ∈ fp, b < s₂.heap.objs.size) (hwr : ∀ b ∈ wr, h₀.get? b = none) (hLf : L ∉ fp)
    (F : Fr h₀ L s₂.heap m) (N : News h₀ L s₂.heap (Led c₀)) (hi : Inv 0 c₀ [])
    (hoff : ∀ i c ys, Inv i c ys → ys.length ≤ 1000 ∧ ∀ p ∈ Led c, p.1 ∉ wr ∧ p.1 ≠ s₂.heap.objs.size ∧ p.1 ≠ s₂.heap.objs.size + 1)
    (turn : ∀ i c ys v h tk own oC mC k, i < n → P i v → Inv i c ys → (∀ p ∈ own, p.1 ∈ fp) → NsO oC mC → mC x = some v → Fr h₀ L h m → News h₀ L h (((s₂.heap.objs.size + 1, oC) :: (s₂.heap.objs.size, lst ys k) :: own) ++ Led c) →
      wpAny (model PG w) A (testsOf ifs (compEnvC scope cl (s₂.heap.objs.size + 1) env))
        (fun ok s₃ => if ok = true then wpAny (model PG w) A (eval elt (compEnvC scope cl (s₂.heap.objs.size + 1) env)) (fun y s₄ => CEnd h₀ L m s₂ Led Inv (i + 1) ((s₂.heap.objs.size + 1, oC) :: (s₂.heap.objs.size, lst ys k) :: own) (ys ++ [y]) s₄) (fun _ _ => False) s₃
          else CEnd h₀ L m s₂ Led Inv (i + 1) ((s₂.heap.objs.size + 1, oC) :: (s₂.heap.objs.size, lst ys k) :: own) ys s₃) (fun _ _ => False) { s₂ with heap := h, toks := tk })
    (fin : ∀ c ys h tk k mC, Inv n c ys → Fr h₀ L h m → News h₀ L h ((s₂.heap.objs.size, lst ys k) :: Led c) → h.Ns (s₂.heap.objs.size + 1) mC → h₀.get? (s₂.heap.objs.size + 1) = none → L ≠ s₂.heap.objs.size + 1 → RR (.ref s₂.heap.objs.size) (s₂.heap.objs.size + 1) (.ok .next) { s₂ with heap := h, toks := tk }) :
    wpAny (model PG w) A (newList []) (fun acc s₃ => wpAny (model PG w) A (newFunctionEnv scope env.globals cl [] env.qual none .none (some env)) (fun cenv s₄ =>
      codeAny (model PG w) A (.compStart (.ListComp elt [⟨.Name x px, iter, ifs, 0⟩] scope pos) 0 (.ref I) acc { cenv with scope := relabel scope env }) (RR acc cenv.locals) s₄) E s₃) E s₂ := by
  refine cps fun P9 k9 => ?_
  obtain ⟨FD, ND, hltD, hLD, hD0⟩ := fresh_at F N (lst [] 0)
  refine k9 ?_
  clear k9 P9
  have hsz1 : (s₂.heap.push (lst [] 0)).objs.size = s₂.heap.objs.size + 1 := Heap.size_push ..
  have hDget : (s₂.heap.push (lst [] 0)).get? s₂.heap.objs.size = some (lst [] 0) := Heap.get?_push_size _ rfl
  have hfresh : ∀ a, s₂.heap.objs.size ≤ a → h₀.get? a = none := fun a ha => by
    cases e : h₀.get? a with
    | none => rfl
    | some o' => exact absurd (Heap.lt_size (F.keep _ _ e)) (Nat.not_lt.mpr ha)
  have hLlt : L < s₂.heap.objs.size := F.ns.lt
  have ne1 : s₂.heap.objs.size + 1 ≠ L := Nat.ne_of_gt (Nat.lt_succ_of_lt hLlt)
  have ne0 : s₂.heap.objs.size ≠ L := Nat.ne_of_gt hLlt
  have ne2 : s₂.heap.objs.size ≠ s₂.heap.objs.size + 1 := Nat.ne_of_lt (Nat.lt_succ_self _)
  refine wpAny_newObj_type (wpAny_newFunctionEnv hcell (by intro y hy; simp at hy) (fun h₁ hns₁ hsb₁ => ?_) hkind)
  dsimp only at hns₁ hsb₁ ⊢
  change h₁.Ns (s₂.heap.push (lst [] 0)).objs.size _ at hns₁
  change Heap.SameBut (s₂.heap.push (lst [] 0)).objs.size ((s₂.heap.push (lst [] 0)).push _) h₁ at hsb₁
  show codeAny _ _ (.compStart _ 0 _ (.ref s₂.heap.objs.size) (compEnvC scope cl (s₂.heap.push (lst [] 0)).objs.size env)) (RR (.ref s₂.heap.objs.size) (s₂.heap.push (lst [] 0)).objs.size) _
  rw [hsz1] at hns₁ hsb₁ ⊢
  have old : ∀ b o, b < s₂.heap.objs.size + 1 → (s₂.heap.push (lst [] 0)).get? b = some o → h₁.get? b = some o := fun b o hb e => hsb₁.extBut b o (Nat.ne_of_lt hb) (Heap.get?_push_of_some _ e)
  have old' : ∀ b o, s₂.heap.get? b = some o → h₁.get? b = some o := fun b o e => old b o (Nat.lt_succ_of_lt (Heap.lt_size e)) (Heap.get?_push_of_some _ e)
  obtain ⟨oC₁, hC₁, hO₁⟩ := ns_obj hns₁
  have F₁ : Fr h₀ L h₁ m := ⟨F.ns.at' fun o e => old' _ o e, fun b o e => old' b o (F.keep b o e), F.above⟩
  have N₁ : News h₀ L h₁ ([(s₂.heap.objs.size + 1, oC₁), (s₂.heap.objs.size, lst [] 0)] ++ Led c₀) := all_app (all_cons (⟨hC₁, ne1, hfresh _ (Nat.le_succ _)⟩) (all_one (⟨old _ _ (Nat.lt_succ_self _) hDget, ne0, hfresh _ (Nat.le_refl _)⟩))) (fun p hp => ⟨old' _ _ (N p hp).1, (N p hp).2⟩)
  have hst₁ : St 0 h₁ := W.frame _ _ _ hst fun b _ o e => old' b o e
  have hCf : s₂.heap.objs.size + 1 ∉ fp := fun hm => Nat.not_lt.mpr (Nat.le_succ _) (hfp _ hm)
  have hDf : s₂.heap.objs.size ∉ fp := fun hm => Nat.lt_irrefl _ (hfp _ hm)
  have hCw : s₂.heap.objs.size + 1 ∉ wr := fun h => hCf (W.sub _ h)
  have hDw : s₂.heap.objs.size ∉ wr := fun h => hDf (W.sub _ h)
  have hLw : L ∉ wr := fun h => hLf (W.sub _ h)
  have loop : ∀ s₃ : Shared, s₃ = { s₂ with heap := h₁, toks := s₂.toks + ([] : List (Str × Value)).length } →
      codeAny (model PG w) A (.compLoop (.ListComp elt [⟨.Name x px, iter, ifs, 0⟩] scope pos) 0 (.ref I) (.ref s₂.heap.objs.size) (compEnvC scope cl (s₂.heap.objs.size + 1) env))
        (RR (.ref s₂.heap.objs.size) (s₂.heap.objs.size + 1)) s₃ := by
    rintro s₃ rfl
    refine codeAny_compLoop_tests (CJ s₂ h₀ L m n St Led Inv) ?_ (n + 1)
      (CJ.of (i := 0) hst₁ F₁ N₁ hO₁ hi (Nat.zero_le _))
    intro k s' HH
    refine cps fun P9 k9 => ?_
    obtain ⟨h', tk, i, c, ys, ep, mC, oC, rfl, hst', F', N', hO', hI', hin, rfl⟩ := HH
    refine k9 ?_
    clear k9 P9
    obtain ⟨hys, hoffc⟩ := hoff i c ys hI'
    have keepW : ∀ (h₂ : Heap), (∀ b o, b ∉ wr → h'.get? b = some o → h₂.get? b = some o) → Fr h₀ L h₂ m ∧ News h₀ L h₂ ([(s₂.heap.objs.size + 1, oC), (s₂.heap.objs.size, lst ys ep)] ++ Led c) := fun h₂ hk => by
      refine ⟨⟨F'.ns.at' fun o e => hk _ o hLw e, fun b o e => hk b o (fun hb => by rw [hwr b hb] at e; cases e) (F'.keep b o e), F'.above⟩, fun p hp => ⟨hk _ _ ?_ (N' p hp).1, (N' p hp).2⟩⟩
      rcases List.mem_append.mp hp with hp | hp
      · rcases List.mem_cons.mp hp with rfl | hp
        · exact hCw
        · rw [List.mem_singleton.mp hp]; exact hDw
      · exact (hoffc p hp).1
    by_cases hlt : i < n
    · refine W.item i _ _ _ hlt hst' fun v h₂ tk₂ hPv hst₂ hk₂ => ?_
      obtain ⟨F₂, N₂⟩ := keepW h₂ hk₂
      have hnC : h₂.Ns (s₂.heap.objs.size + 1) mC := hO'.ns (N₂ _ (List.mem_append_left _ List.mem_cons_self)).1
      refine wpAny_assign_Name (wpAny_storeName_local (env := compEnvC scope cl (s₂.heap.objs.size + 1) env) (lookup_relabel_local hx) hnC (fun h₃ hn₃ hs₃ => ?_) (by simp [compEnvC, relabel, hkind]))
      obtain ⟨oC₃, hC₃, hO₃⟩ := ns_obj hn₃
      have hs₃' : Heap.SameBut (s₂.heap.objs.size + 1) h₂ h₃ := hs₃
      have F₃ : Fr h₀ L h₃ m := F₂.change hs₃' ne1 (hfresh _ (Nat.le_succ _))
      have N₃ : News h₀ L h₃ ([(s₂.heap.objs.size + 1, oC₃), (s₂.heap.objs.size, lst ys ep)] ++ Led c) := fun p hp => by
        rcases List.mem_append.mp hp with hp | hp
        · rcases List.mem_cons.mp hp with rfl | hp
          · exact ⟨hC₃, ne1, hfresh _ (Nat.le_succ _)⟩
          · rw [List.mem_singleton.mp hp]
            have z := N₂ (s₂.heap.objs.size, lst ys ep) (List.mem_append_left _ (List.mem_cons_of_mem _ List.mem_cons_self))
            exact ⟨hs₃'.extBut _ _ ne2 z.1, z.2⟩
        · have z := N₂ p (List.mem_append_right _ hp)
          exact ⟨hs₃'.extBut _ _ (hoffc p hp).2.2 z.1, z.2⟩
      have Nown : News h₀ L h₃ (ownOf h₀ fp h₃) := news_ownOf hLf
      have hst₃ : St (i + 1) h₃ := W.frame _ _ _ hst₂ fun b hb o e => hs₃'.extBut b o (fun q => hCf (q ▸ hb)) e
      have back : ∀ (h₄ : Heap) (news' : List (Addr × Obj)) c', Fr h₀ L h₄ m → News h₀ L h₄ news' → (∀ p ∈ ((s₂.heap.objs.size + 1, oC₃) :: (s₂.heap.objs.size, lst ys ep) :: ownOf h₀ fp h₃) ++ Led c', p ∈ news') → St (i + 1) h₄ := fun h₄ news' c' F₄ N₄ hn₄ => by
        refine W.frame _ _ _ hst₃ fun b hb o e => ?_
        cases hq : h₀.get? b with
        | none => exact (N₄ (b, o) (hn₄ _ (List.mem_append_left _ (List.mem_cons_of_mem _ (List.mem_cons_of_mem _ (mem_ownOf hb hq e)))))).1
        | some o' =>
          have e' := F₃.keep b o' hq
          rw [e] at e'
          cases e'
          exact F₄.keep b o hq
      refine wpAny_mono (turn i c ys v h₃ _ (ownOf h₀ fp h₃) oC₃ _ ep hlt hPv hI' ownOf_sub hO₃ (by simp) F₃ (fun p hp => ?_)) (fun ok s₄ h₄ => ?_) fun _ _ e => e.elim
      · rcases List.mem_append.mp hp with hp | hp
        · rcases List.mem_cons.mp hp with rfl | hp
          · exact N₃ _ (List.mem_append_left _ List.mem_cons_self)
          · rcases List.mem_cons.mp hp with rfl | hp
            · exact N₃ _ (List.mem_append_left _ (List.mem_cons_of_mem _ List.mem_cons_self))
            · exact Nown p hp
        · exact N₃ p (List.mem_append_right _ hp)
      · cases ok with
        | false =>
          simp only [Bool.false_eq_true, if_false] at h₄ ⊢
          refine cps fun P9 k9 => ?_
          obtain ⟨c', h₅, tk₅, news', rfl, F₅, N₅, hn₅, hI₅⟩ := h₄
          refine k9 ?_
          clear k9 P9
          exact ⟨n + 1 - (i + 1), by lia, CJ.of (back h₅ news' c' F₅ N₅ hn₅) F₅ (fun p hp => N₅ p (hn₅ p (by
            rcases List.mem_append.mp hp with hp | hp
            · refine List.mem_append_left _ ?_
              rcases List.mem_cons.mp hp with rfl | hp
              · exact List.mem_cons_self
              · rw [List.mem_singleton.mp hp]; exact List.mem_cons_of_mem _ List.mem_cons_self
            · exact List.mem_append_right _ hp))) hO₃ hI₅ hlt⟩
        | true =>
          simp only [if_true] at h₄ ⊢
          refine wpAny_mono h₄ (fun y s₅ h₅ => ?_) fun _ _ e => e.elim
          refine cps fun P9 k9 => ?_
          obtain ⟨c', h₆, tk₆, news', rfl, F₆, N₆, hn₆, hI₆⟩ := h₅
          refine k9 ?_
          clear k9 P9
          have hst₆ := back h₆ news' c' F₆ N₆ hn₆
          have zD := N₆ (s₂.heap.objs.size, lst ys ep) (hn₆ _ (List.mem_append_left _ (List.mem_cons_of_mem _ List.mem_cons_self)))
          have hoff₆ := (hoff _ _ _ hI₆).2
          refine append_at (x := y) (hsz := (by show ys.toArray.size ≤ sizeLine; rw [List.size_toArray]; unfold sizeLine; lia)) zD.1 fun h₇ hs₇ ho₇ => ?_
          have e7 : ys.toArray.push y = (ys ++ [y]).toArray := by simp
          rw [e7] at ho₇
          refine ⟨n + 1 - (i + 1), by lia, CJ.of (ep := ep + 1) (W.frame _ _ _ hst₆ fun b hb o e => hs₇.extBut b o (fun q => hDf (q ▸ hb)) e) (F₆.change hs₇ ne0 hD0) (fun p hp => ?_) hO₃ hI₆ hlt⟩
          rcases List.mem_append.mp hp with hp | hp
          · rcases List.mem_cons.mp hp with rfl | hp
            · have z := N₆ (s₂.heap.objs.size + 1, oC₃) (hn₆ _ (List.mem_append_left _ List.mem_cons_self))
              exact ⟨hs₇.extBut _ _ ne2.symm z.1, z.2⟩
            · rw [List.mem_singleton.mp hp]
              exact ⟨ho₇, zD.2⟩
          · have z := N₆ p (hn₆ p (List.mem_append_right _ hp))
            exact ⟨hs₇.extBut _ _ (hoff₆ p hp).2.1 z.1, z.2⟩
    · have hin' : i = n := by lia
      subst hin'
      refine W.done _ _ _ hst' fun h₂ tk₂ hk₂ => ?_
      obtain ⟨F₂, N₂⟩ := keepW h₂ hk₂
      exact fin c ys h₂ tk₂ ep mC hI' F₂ (fun p hp => N₂ p (by
        rcases List.mem_cons.mp hp with rfl | hp
        · exact List.mem_append_left _ (List.mem_cons_of_mem _ List.mem_cons_self)
        · exact List.mem_append_right _ hp)) (hO'.ns (N₂ _ (List.mem_append_left _ List.mem_cons_self)).1) (hfresh _ (Nat.le_succ _)) ne1.symm
  exact codeAny_compStart_list (loop _ rfl) (W.self 0 _ _ _ hst₁ (loop _ rfl))
/-- what is left of a comprehension behind its iterator's making -/
def CompK (w : World) (A : Around) (env : Env) (elt : PySem.Expr) (x : Str) (px : Pos) (iter : PySem.Expr) (ifs : List PySem.Expr) (scope : Scope) (cl : List (Str × Addr)) (pos : Pos) (use : Option (Value → Sem Unit)) (Q : Value → Shared → Prop) (E : Value → Shared → Prop) (it : Value) (s₂ : Shared) : Prop :=
  wpAny (model PG w) A (newList []) (fun acc s₃ => wpAny (model PG w) A (newFunctionEnv scope env.globals cl [] env.qual none .none (some env)) (fun cenv s₄ =>
    codeAny (model PG w) A (.compStart (.ListComp elt [⟨.Name x px, iter, ifs, 0⟩] scope pos) 0 it acc { cenv with scope := relabel scope env }) (compPost (model PG w) A E use Q acc cenv.locals) s₄) E s₃) E s₂
section
variable {w : World} {A : Around} {E : Value → Shared → Prop} {s : Shared} {env : Env} {elt iter : PySem.Expr} {x : Str} {px : Pos} {ifs : List PySem.Expr} {scope : Scope} {pos : Pos}
theorem listcomp_start (cl : List (Str × Addr)) {Q : Value → Shared → Prop} (hclos : closureFor scope env = pure cl) (hkind : scope.kind = .function)
    (hnames : ∀ y ∈ scope.names, y.2 = .local → scope.names.lookup y.1 = some .local)
    (h : wpAny (model PG w) A (eval iter env) (fun xv s₁ => wpAny (model PG w) A (pyIter xv) (CompK w A env elt x px iter ifs scope cl pos none Q E) E s₁) E s)
    (hs : ∀ x, foldedSetIterable iter env x = pure x := by intro _; rfl) :
    wpAny (model PG w) A (eval (.ListComp elt [⟨.Name x px, iter, ifs, 0⟩] scope pos) env) Q E s := by
  rw [eval_ListComp]
  exact wpAny_comprehension_free (use := none) rfl hs hclos hkind hnames h
theorem assign_listcomp_start (cl : List (Str × Addr)) {y : Str} {py spos : Pos} {Q : Flow → Shared → Prop}
    (hsw : swapsWith (.ListComp elt [⟨.Name x px, iter, ifs, 0⟩] scope pos) (some (.Name y py)) spos.line env = pure true)
    (hclos : closureFor scope env = pure cl) (hkind : scope.kind = .function)
    (hnames : ∀ y ∈ scope.names, y.2 = .local → scope.names.lookup y.1 = some .local)
    (h : wpAny (model PG w) A (eval iter env) (fun xv s₁ => wpAny (model PG w) A (pyIter xv) (CompK w A env elt x px iter ifs scope cl pos (some (assign (.Name y py) env)) (fun _ s' => Q .next s') E) E s₁) E s)
    (hs : ∀ x, foldedSetIterable iter env x = pure x := by intro _; rfl) :
    wpAny (model PG w) A (exec (.Assign [.Name y py] (.ListComp elt [⟨.Name x px, iter, ifs, 0⟩] scope pos) spos) env) Q E s := by
  rw [exec_Assign_Name_used _ _ _ _ hsw]
  refine wpAny_bind (wpAny_standAt (wpAny_bind ?_))
  show wpAny _ A (do let _ ← comprehension (.ListComp elt [⟨.Name x px, iter, ifs, 0⟩] scope pos) scope env _ (newList []) false (eval iter env) (some (assign (.Name y py) env))) _ _ s
  exact wpAny_bind (wpAny_mono (wpAny_comprehension_free (use := some (assign (.Name y py) env)) (Q := fun _ s' => Q .next s') rfl hs hclos hkind hnames h) (fun _ s' hq => wpAny_pure (wpAny_pure hq)) fun _ _ e => e)
end
section
variable {w : World} {A : Around} {E : Value → Shared → Prop} {s₂ : Shared} {env : Env} {h₀ : Heap} {L : Addr} {m : Str → Option Value} {elt iter : PySem.Expr} {x : Str} {px : Pos} {ifs : List PySem.Expr} {scope : Scope} {cl : List (Str × Addr)} {pos : Pos} {σ : Type}
    {I : Addr} {fp wr : List Addr} {n : Nat} {P : Nat → Value → Prop} {St : Nat → Heap → Prop}
/-- one turn of a comprehension -/
def CompTurn (w : World) (A : Around) (s₂ : Shared) (env : Env) (h₀ : Heap) (L : Addr) (m : Str → Option Value) (elt : PySem.Expr) (x : Str) (ifs : List PySem.Expr) (scope : Scope) (cl : List (Str × Addr)) (fp : List Addr) (n : Nat) (P : Nat → Value → Prop) {σ : Type} (Led : σ → List (Addr × Obj)) (Inv : Nat → σ → List Value → Prop) : Prop :=
  ∀ i c ys v h tk own oC mC k, i < n → P i v → Inv i c ys → (∀ p ∈ own, p.1 ∈ fp) → NsO oC mC → mC x = some v → Fr h₀ L h m → News h₀ L h (((s₂.heap.objs.size + 1, oC) :: (s₂.heap.objs.size, lst ys k) :: own) ++ Led c) →
      wpAny (model PG w) A (testsOf ifs (compEnvC scope cl (s₂.heap.objs.size + 1) env))
        (fun ok s₃ => if ok = true then wpAny (model PG w) A (eval elt (compEnvC scope cl (s₂.heap.objs.size + 1) env)) (fun y s₄ => CEnd h₀ L m s₂ Led Inv (i + 1) ((s₂.heap.objs.size + 1, oC) :: (s₂.heap.objs.size, lst ys k) :: own) (ys ++ [y]) s₄) (fun _ _ => False) s₃
          else CEnd h₀ L m s₂ Led Inv (i + 1) ((s₂.heap.objs.size + 1, oC) :: (s₂.heap.objs.size, lst ys k) :: own) ys s₃) (fun _ _ => False) { s₂ with heap := h, toks := tk }
theorem comp_none {Q : Value → Shared → Prop} (W : Walks PG w A I fp wr n P St) (Led : σ → List (Addr × Obj)) (Inv : Nat → σ → List Value → Prop) (c₀ : σ)
    (hcell : ∀ y ∈ scope.names, y.2 ≠ .cell) (hkind : scope.kind = .function) (hx : scope.names.lookup x = some .local)
    (hst : St 0 s₂.heap) (hfp : ∀ b ∈ fp, b < s₂.heap.objs.size) (hwr : ∀ b ∈ wr, h₀.get? b = none) (hLf : L ∉ fp)
    (F : Fr h₀ L s₂.heap m) (N : News h₀ L s₂.heap (Led c₀)) (hi : Inv 0 c₀ [])
    (hoff : ∀ i c ys, Inv i c ys → ys.length ≤ 1000 ∧ ∀ p ∈ Led c, p.1 ∉ wr ∧ p.1 ≠ s₂.heap.objs.size ∧ p.1 ≠ s₂.heap.objs.size + 1)
    (turn : CompTurn w A s₂ env h₀ L m elt x ifs scope cl fp n P Led Inv)
    (fin : ∀ c ys h tk k, Inv n c ys → Fr h₀ L h m → News h₀ L h ((s₂.heap.objs.size, lst ys k) :: Led c) → Q (.ref s₂.heap.objs.size) { s₂ with heap := h, toks := tk }) :
    CompK w A env elt x px iter ifs scope cl pos none Q E (.ref I) s₂ := by
  refine comp_block (RR := fun acc C => compPost (model PG w) A E none Q acc C) W Led Inv c₀ hcell hkind hx hst hfp hwr hLf F N hi hoff turn ?_
  intro c ys h tk k mC hI F' N' hC hC0 hLC
  refine ⟨mC, hC, fun h' hs' => fin c ys h' tk k hI (F'.change hs' (Ne.symm hLC) hC0) fun p hp => ?_⟩
  refine ⟨hs'.extBut _ _ ?_ (N' p hp).1, (N' p hp).2⟩
  rcases List.mem_cons.mp hp with rfl | hp
  · exact Nat.ne_of_lt (Nat.lt_succ_self _)
  · exact ((hoff _ _ _ hI).2 p hp).2.2
theorem comp_assign {y : Str} {py : Pos} {Q : Flow → Shared → Prop} (W : Walks PG w A I fp wr n P St) (Led : σ → List (Addr × Obj)) (Inv : Nat → σ → List Value → Prop) (c₀ : σ)
    (hcell : ∀ y ∈ scope.names, y.2 ≠ .cell) (hkind : scope.kind = .function) (hx : scope.names.lookup x = some .local)
    (hy : env.kindOf y = some .local) (hp : (env.scope.kind == .class || (env.scope.kind == .module && env.locals != env.globals)) = false) (hLe : env.locals = L)
    (hst : St 0 s₂.heap) (hfp : ∀ b ∈ fp, b < s₂.heap.objs.size) (hwr : ∀ b ∈ wr, h₀.get? b = none) (hLf : L ∉ fp)
    (F : Fr h₀ L s₂.heap m) (N : News h₀ L s₂.heap (Led c₀)) (hi : Inv 0 c₀ [])
    (hoff : ∀ i c ys, Inv i c ys → ys.length ≤ 1000 ∧ ∀ p ∈ Led c, p.1 ∉ wr ∧ p.1 ≠ s₂.heap.objs.size ∧ p.1 ≠ s₂.heap.objs.size + 1)
    (turn : CompTurn w A s₂ env h₀ L m elt x ifs scope cl fp n P Led Inv)
    (fin : ∀ c ys h tk k, Inv n c ys → Fr h₀ L h (fun z => if z = y then some (.ref s₂.heap.objs.size) else m z) → News h₀ L h ((s₂.heap.objs.size, lst ys k) :: Led c) → Q .next { s₂ with heap := h, toks := tk }) :
    CompK w A env elt x px iter ifs scope cl pos (some (assign (.Name y py) env)) (fun _ s' => Q .next s') E (.ref I) s₂ := by
  refine comp_block (RR := fun acc C => compPost (model PG w) A E (some (assign (.Name y py) env)) (fun _ s' => Q .next s') acc C) W Led Inv c₀ hcell hkind hx hst hfp hwr hLf F N hi hoff turn ?_
  intro c ys h tk k mC hI F' N' hC hC0 hLC
  show wpAny _ A (assign (.Name y py) env (.ref s₂.heap.objs.size)) _ _ _
  subst hLe
  refine wpAny_assign_Name (wpAny_storeName_local hy F'.ns (fun h₂ hn₂ hs₂ => ?_) hp)
  refine ⟨mC, hC.sameBut hs₂ (Ne.symm hLC), fun h' hs' => fin c ys h' _ k hI ((F'.set hn₂ hs₂).change hs' (Ne.symm hLC) hC0) fun p hp => ?_⟩
  have z := (N'.set hs₂) p hp
  refine ⟨hs'.extBut _ _ ?_ z.1, z.2⟩
  rcases List.mem_cons.mp hp with rfl | hp
  · exact Nat.ne_of_lt (Nat.lt_succ_self _)
  · exact ((hoff _ _ _ hI).2 p hp).2.2
end
section
variable {M : Model} {w : World} {A : Around} {E : Value → Shared → Prop} {s : Shared} {env : Env} {h₀ : Heap} {L : Addr} {m : Str → Option Value} {news : List (Addr × Obj)} {x : Str} {p : Pos} {v : Value} {Q : Value → Shared → Prop}
theorem nameC_L {oC : Obj} {mC : Str → Option Value} (hk : env.scope.kind = .function := by rfl) (hx : env.kindOf x = some .local := by rfl) (hd : (x == ("__debug__" : Str)) = false := by decide)
    (N : News h₀ L s.heap news := by assumption) (hO : NsO oC mC := by assumption) (hm : (env.locals, oC) ∈ news := by walk_at "member") (hv : mC x = some v := by assumption) (h : Q v s) :
    wpAny M A (eval (.Name x p) env) Q E s := wpAny_Name (wpAny_loadName_local hk hx (hO.ns (N _ hm).1) hv h) hd
theorem nameC_C {c : Addr} {o : Obj} (hk : env.scope.kind = .function := by rfl) (hx : env.kindOf x = some .cell := by rfl) (hb : (x == ("__debug__" : Str)) = false := by decide)
    (N : News h₀ L s.heap news := by assumption) (hc : env.cells.lookup x = some c := by rfl) (hm : (c, o) ∈ news := by first | walk_at "cmem" | walk_at "member") (hdt : o.data = .cell (some v) := by assumption) (h : Q v s) :
    wpAny M A (eval (.Name x p) env) Q E s := wpAny_Name (wpAny_loadName_cell hk hx hc ⟨o, N.get hm, hdt⟩ h) hb
theorem nameC_K {K : Frag} {loose : List Str} {pr : Program} {mg mb : Str → Option Value} (hg : env.globals = mainGlobals := by rfl) (hk : env.scope.kind = .function := by rfl) (hx : env.kindOf x = some .globalImplicit := by rfl) (hd : (x == ("__debug__" : Str)) = false := by decide)
    (F : Fr h₀ L s.heap m := by assumption) (X : K.In h₀ := by assumption) (T : TopRead pr loose mg mb h₀ := by k_asm) (e : nsIn K mainGlobals x = some (some v) := by k_is) (h : Q v s) :
    wpAny M A (eval (.Name x p) env) Q E s := Name_function_global hk hx (loadGlobal_global (env := env) (hg ▸ T.g.keeps F.keep) (mg_of X T.g e) h) hd
end
local macro_rules | `(tactic| walk_at "eval Name") => `(tactic| ((with_reducible show wpAny _ _ (eval (Expr.Name _ _) (compEnvC _ _ _ _)) _ _ _); k_dflt (first | refine nameC_L (h := ?_) | refine nameC_C (h := ?_) | refine nameC_K (h := ?_))))
def leastOf (xs : List Nat) : Nat := if xs.headD 1 = 0 then 0 else 1
theorem leastOf_le (xs : List Nat) : leastOf xs ≤ 1 := by unfold leastOf; split <;> (first | assumption | exact Nat.le_of_lt (by assumption) | exact Nat.le_trans (by assumption) (by assumption) | exact Nat.lt_of_lt_of_le (by assumption) (by assumption) | exact Nat.lt_of_le_of_lt (by assumption) (by assumption) | lia)
abbrev iz (xs : List Nat) : List Int := xs.map fun (x : Nat) => (x : Int)
theorem iz_length (xs : List Nat) : (iz xs).length = xs.length := List.length_map _
theorem iz_getD (xs : List Nat) (k : Nat) : (iz xs).getD k 0 = ((xs.getD k 0 : Nat) : Int) := by
  simp only [List.getD, List.getElem?_map]
  cases xs[k]? <;> rfl
set_option maxRecDepth 100000 in
set_option maxHeartbeats 8000000 in
theorem least_spec {w : World} {A : Around} {h₀ : Heap} {L : Addr} {s : Shared} {m : Str → Option Value} {news : List (Addr × Obj)} {l : Addr} {vs : List Value} {xs : List Nat} {n : Nat} {Q E : Value → Shared → Prop}
    (G : Sit w A h₀ L := by assumption) (F : Fr h₀ L s.heap m := by assumption) (N : News h₀ L s.heap news := by assumption) (hd : A.depth + 1 < recursionLimit := by walk_at "room") (hu : A.units + 8 < cLine := by walk_at "room")
    (hl : (l, lst vs n) ∈ news := by walk_at "member") (hI : IntsAre vs (iz xs) := by assumption) (hx : xs ≠ [] := by assumption) (hz : (iz xs).length ≤ 100 := by walk_at "fits")
    (hret : ∀ t h' tk', Fr h₀ L h' m → News h₀ L h' news → Q (.int (leastOf xs : Nat) t) { s with heap := h', toks := tk' }) :
    wpAny (model PG w) A (call (.ref 121) [.ref l]) Q E s := by
  obtain ⟨x, xs, rfl⟩ := List.exists_cons_of_ne_nil hx
  w_on
  w_strict (
  refine' enter [(Str.ofString "figures", .ref l)] G F N ?k6 ?k7 ?k8 ?k9 ?kp ?kB ?_ ?c2 ?c3 ?c4 ?c5
  (case k6 => k_dflt k_is)
  (case k7 => k_dflt k_is)
  (case k8 => exact roomd (by assumption))
  (case k9 => exact rfl)
  (case kp => exact rfl)
  (case kB => exact locs rfl)
  (case c2 => exact rfl)
  (case c3 => exact rfl)
  (case c4 => exact rfl)
  (case c5 => decide)
  walk_at "enter"
  k_steps
  all_goals ((try dsimp only); refine out_ret (by assumption) (by assumption) fun F9 N9 => ?_)
  · rename_i e9
    have e9' : (x : Int) = 0 := e9
    have e : leastOf (x :: xs) = 0 := if_pos (by simpa using e9')
    exact cb_retI hret (by rw [e]; rfl) F9 N9
  · rename_i e9
    have e9' : ¬ (x : Int) = 0 := e9
    have e : leastOf (x :: xs) = 1 := if_neg (by simpa using e9')
    exact cb_retI hret (by rw [e]; rfl) F9 N9)
local macro_rules | `(tactic| walk_at "call ref") => `(tactic| (refine least_spec (hret := ?_); intros))
def nth (l : Nat) (xs : List Nat) (v : Nat) : Nat :=
  if h : 0 < v ∧ 2 ≤ xs.length then xs.getD ((v - l) % xs.length) 0 + 10 * nth l xs ((v - l) / xs.length) else 0
termination_by v
decreasing_by
  have h1 : (v - l) / xs.length ≤ v / xs.length := Nat.div_le_div_right (Nat.sub_le _ _)
  have h2 : v / xs.length < v := Nat.div_lt_self h.1 h.2
  (first | assumption | exact Nat.le_of_lt (by assumption) | exact Nat.le_trans (by assumption) (by assumption) | exact Nat.lt_of_lt_of_le (by assumption) (by assumption) | exact Nat.lt_of_le_of_lt (by assumption) (by assumption) | lia)
theorem nth_step {l v : Nat} {xs : List Nat} (hv : 0 < v) (hx : 2 ≤ xs.length) : nth l xs v = xs.getD ((v - l) % xs.length) 0 + 10 * nth l xs ((v - l) / xs.length) := by
  rw [nth, dif_pos ⟨hv, hx⟩]
theorem nth_zero {l : Nat} {xs : List Nat} : nth l xs 0 = 0 := by
  rw [nth, dif_neg (by (first | assumption | exact Nat.le_of_lt (by assumption) | exact Nat.le_trans (by assumption) (by assumption) | exact Nat.lt_of_lt_of_le (by assumption) (by assumption) | exact Nat.lt_of_le_of_lt (by assumption) (by assumption) | lia))]
set_option maxRecDepth 100000 in
set_option maxHeartbeats 8000000 in
theorem nth_spec {w : World} {A : Around} {h₀ : Heap} {L : Addr} {s : Shared} {m : Str → Option Value} {news : List (Addr × Obj)} {l : Addr} {vs : List Value} {xs : List Nat} {n : Nat} {v : Nat} {t : Tok} {Q E : Value → Shared → Prop}
    (G : Sit w A h₀ L) (F : Fr h₀ L s.heap m) (N : News h₀ L s.heap news) (hd : A.depth + 2 < recursionLimit) (hu : A.units + 16 < cLine)
    (hl : (l, lst vs n) ∈ news) (hI : IntsAre vs (iz xs)) (hx : 2 ≤ xs.length) (hx' : xs.length ≤ 10) (hx9 : ∀ x ∈ xs, x < 10) (hv' : v < 10 ^ 9)
    (hret : ∀ t h' tk', Fr h₀ L h' m → News h₀ L h' news → Q (.int (nth (leastOf xs) xs v : Nat) t) { s with heap := h', toks := tk' }) :
    wpAny (model PG w) A (call (.ref 128) [.int v t, .ref l]) Q E s := by
  have hx0 : xs ≠ [] := by intro e; rw [e] at hx; simp at hx
  have hle := leastOf_le xs
  w_on
  w_strict (
  refine' enter [(Str.ofString "figures", .ref l), (Str.ofString "value", .int v t)] G F N ?k6 ?k7 ?k8 ?k9 ?kp ?kB ?_ ?c2 ?c3 ?c4 ?c5
  (case k6 => k_dflt k_is)
  (case k7 => k_dflt k_is)
  (case k8 => exact roomd (by assumption))
  (case k9 => exact rfl)
  (case kp => exact rfl)
  (case kB => exact locs rfl)
  (case c2 => exact rfl)
  (case c3 => exact rfl)
  (case c4 => exact rfl)
  (case c5 => decide)
  walk_at "enter"
  k_steps
  (intro stop9; clear stop9)
  rename_i F1 N1
  refine' ksw_while (σ := Nat × Int × Int × Tok × Tok × Tok) (fun _ => news) (fun c => [(Str.ofString "value", .int c.1 c.2.2.2.1), (Str.ofString "number", .int c.2.1 c.2.2.2.2.1), (Str.ofString "place", .int c.2.2.1 c.2.2.2.2.2)]) (fun _ => True) []
    (fun c => c.2.1 + c.2.2.1 * (nth (leastOf xs) xs c.1 : Nat) = (nth (leastOf xs) xs v : Nat)) (fun c => c.1) (v, 0, 1, ?t1, ?t2, ?t3) F1 N1 trivial ?hk ?hp ?_ PassesOwn.never
  case hk => exact List.forall_mem_cons.mpr ⟨by with_unfolding_all exact Eq.refl (some _), List.forall_mem_cons.mpr ⟨by with_unfolding_all exact Eq.refl (some _), List.forall_mem_cons.mpr ⟨by with_unfolding_all exact Eq.refl (some _), fun _ h => nomatch h⟩⟩⟩
  case hp => dsimp only; (first | assumption | exact Nat.le_of_lt (by assumption) | exact Nat.le_trans (by assumption) (by assumption) | exact Nat.lt_of_lt_of_le (by assumption) (by assumption) | exact Nat.lt_of_le_of_lt (by assumption) (by assumption) | lia)
  refine fa6 fun v1 num pl t1 t2 t3 => ?_
  intro u h2 tk2 _ p1 F2 N2
  dsimp only at p1
  dsimp only [kstB_cons, kstB_nil] at F2
  (try k_fold)
  k_steps
  · rename_i hv1 _ _ _ _ _ _ _ _ _
    have hv1' : 0 < v1 := by (first | assumption | exact Nat.le_of_lt (by assumption) | exact Nat.le_trans (by assumption) (by assumption) | exact Nat.lt_of_lt_of_le (by assumption) (by assumption) | exact Nat.lt_of_le_of_lt (by assumption) (by assumption) | lia)
    have es : (v1 : Int) - ((leastOf xs : Nat) : Int) = ((v1 - leastOf xs : Nat) : Int) := by (first | assumption | exact Nat.le_of_lt (by assumption) | exact Nat.le_trans (by assumption) (by assumption) | exact Nat.lt_of_lt_of_le (by assumption) (by assumption) | exact Nat.lt_of_le_of_lt (by assumption) (by assumption) | lia)
    rw [es, iz_length, fmod_nat, Int.toNat_natCast, iz_getD]
    have hlt : (v1 - leastOf xs) % xs.length < xs.length := Nat.mod_lt _ (by (first | assumption | exact Nat.le_of_lt (by assumption) | exact Nat.le_trans (by assumption) (by assumption) | exact Nat.lt_of_lt_of_le (by assumption) (by assumption) | exact Nat.lt_of_le_of_lt (by assumption) (by assumption) | lia))
    have h9 : xs.getD ((v1 - leastOf xs) % xs.length) 0 < 10 := by
      have : xs.getD ((v1 - leastOf xs) % xs.length) 0 = xs[(v1 - leastOf xs) % xs.length] := by simp [List.getD, List.getElem?_eq_getElem hlt]
      rw [this]; exact hx9 _ (List.getElem_mem _)
    refine mul_m (by (first | assumption | exact Nat.le_of_lt (by assumption) | exact Nat.le_trans (by assumption) (by assumption) | exact Nat.lt_of_lt_of_le (by assumption) (by assumption) | exact Nat.lt_of_le_of_lt (by assumption) (by assumption) | lia)) fun t9 => ?_
    k_steps
    rw [es, iz_length]
    refine fdiv_m (by (first | assumption | exact Nat.le_of_lt (by assumption) | exact Nat.le_trans (by assumption) (by assumption) | exact Nat.lt_of_lt_of_le (by assumption) (by assumption) | exact Nat.lt_of_le_of_lt (by assumption) (by assumption) | lia)) (by (first | assumption | exact Nat.le_of_lt (by assumption) | exact Nat.le_trans (by assumption) (by assumption) | exact Nat.lt_of_lt_of_le (by assumption) (by assumption) | exact Nat.lt_of_le_of_lt (by assumption) (by assumption) | lia)) fun t9 => ?_
    k_steps
    rename_i F9 N9
    rw [nth_step hv1' hx] at p1
    refine ksw_end ((v1 - leastOf xs) / xs.length, _, _, _, _, _) F9 N9 (fun _ h => h) trivial (List.forall_mem_cons.mpr ⟨by with_unfolding_all exact Eq.refl (some _), List.forall_mem_cons.mpr ⟨by with_unfolding_all exact Eq.refl (some _), List.forall_mem_cons.mpr ⟨by with_unfolding_all exact Eq.refl (some _), fun _ h => nomatch h⟩⟩⟩) ?_ ?_ ?_
    · intro z h1 h2
      have a1 := h1 _ List.mem_cons_self
      have a2 := h1 _ (List.mem_cons_of_mem _ List.mem_cons_self)
      have a3 := h1 _ (List.mem_cons_of_mem _ (List.mem_cons_of_mem _ List.mem_cons_self))
      dsimp only at a1 a2 a3
      simp only [a1, a2, a3, if_false, List.contains_nil, Bool.false_eq_true]
    · dsimp only
      rw [← p1]
      push_cast
      grind
    · have h1 : (v1 - leastOf xs) / xs.length ≤ v1 / xs.length := Nat.div_le_div_right (Nat.sub_le _ _)
      have h2 : v1 / xs.length < v1 := Nat.div_lt_self hv1' hx
      show (v1 - leastOf xs) / xs.length < v1
      (first | assumption | exact Nat.le_of_lt (by assumption) | exact Nat.le_trans (by assumption) (by assumption) | exact Nat.lt_of_lt_of_le (by assumption) (by assumption) | exact Nat.lt_of_le_of_lt (by assumption) (by assumption) | lia)
  · try dsimp only
    refine out_ret (by assumption) (by assumption) fun F9 N9 => cb_retI hret ?_ F9 N9
    have : v1 = 0 := by (first | assumption | exact Nat.le_of_lt (by assumption) | exact Nat.le_trans (by assumption) (by assumption) | exact Nat.lt_of_lt_of_le (by assumption) (by assumption) | exact Nat.lt_of_le_of_lt (by assumption) (by assumption) | lia)
    subst this
    rw [nth_zero] at p1
    (first | assumption | exact Nat.le_of_lt (by assumption) | exact Nat.le_trans (by assumption) (by assumption) | exact Nat.lt_of_lt_of_le (by assumption) (by assumption) | exact Nat.lt_of_le_of_lt (by assumption) (by assumption) | lia))
theorem ints_snoc {x : Int} {t : Tok} : ∀ {vs : List Value} {ns : List Int}, IntsAre vs ns → IntsAre (vs ++ [.int x t]) (ns ++ [x])
  | _, _, .nil => .cons x t .nil
  | _, _, .cons i u h => .cons i u (ints_snoc h)
theorem any_iz (ms : List Nat) (i : Nat) : ((iz ms).any (· == (i : Int))) = ms.contains i := by
  rw [List.any_map, List.contains_eq_any_beq]
  congr 1
  funext y
  simp only [Function.comp_apply]
  by_cases e : y = i
  · subst e; simp
  · have e1 : ((y : Int) == (i : Int)) = false := by simpa using (by (first | assumption | exact Nat.le_of_lt (by assumption) | exact Nat.le_trans (by assumption) (by assumption) | exact Nat.lt_of_lt_of_le (by assumption) (by assumption) | exact Nat.lt_of_le_of_lt (by assumption) (by assumption) | lia) : ¬ (y : Int) = (i : Int))
    have e2 : (i == y) = false := by simpa using (fun q => e q.symm)
    rw [e1, e2]
theorem enterC {w : World} {A : Around} {h₀ : Heap} {L : Addr} {s : Shared} {m : Str → Option Value} {news : List (Addr × Obj)} {name qual : Str} {params : Arguments} {body : List Stmt} {scope : Scope} {dV kV doc pm cdv ct oc : Value} {an od : Option Addr} {osl : Array (Option Value)} {f : Addr} {vals : List Value} (binds : List (Str × Value)) {Q E : Value → Shared → Prop}
    (G : Sit w A h₀ L) (F : Fr h₀ L s.heap m) (N : News h₀ L s.heap news)
    (ho : (Mine.hd.heap_39 w.params).lookup f = some ⟨oc, od, .func (fnOf name qual params body scope dV kV doc pm an cdv ct), osl⟩)
    (hcd : codeIn (Mine.hd.heap_39 w.params) cdv qual = true) (hroom : A.depth < recursionLimit)
    (hbind : bindArgs (fnOf name qual params body scope dV kV doc pm an cdv ct) ⟨vals, []⟩ = pure binds)
    (hkindb : (binds.all fun y => scope.names.lookup y.1 == some .local || scope.names.lookup y.1 == some .cell) = true)
    (hnd : ((cellsFrom 0 scope.names []).map (·.1)).Nodup)
    (h : ∀ g L' h₁ tk cells, Sit w (A.deeper (envOfC qual scope L' f cdv)) g L' → Fr g L' h₁ (bindL (envOfC qual scope L' f cdv).kindOf binds fun _ => none) → News g L' h₁ (cells ++ news) →
      CellsAre (bindC (envOfC qual scope L' f cdv).kindOf binds fun _ => none) (cellsFrom (L' + 1) scope.names []) cells → (∀ p ∈ news, p.1 < L') →
      wpAny (model PG w) (A.deeper (envOfC qual scope L' f cdv)) (execs body (envOfC qual scope L' f cdv))
        (Out h₀ L m g Q) (fun _ _ => False) { s with heap := h₁, toks := tk })
    (hco : scope.isCoroutine = false := by rfl) (hgen : scope.isGenerator = false := by rfl) (hk : scope.kind = .function := by rfl) :
    wpAny (model PG w) A (call (.ref f) vals) Q E s := by
  refine cps fun P9 k9 => ?_
  obtain ⟨A₀, base, outer, env, loose, mean, mg, mb, B, hA, hf, hke, X₀, T⟩ := G.ex
  refine k9 ?_
  clear k9 P9
  refine wpAny_call (callX_cells B F N T.nolimit hA hf hke ((X₀.keeps F.keep) _ _ ho) rfl (codeRec_of (X₀.keeps F.keep) hcd) hroom (BindsTo.of_eq hbind) (kindsX hkindb) hnd (fun g L' h₁ tk cells FG F' N' Y B' st hlt => ?_) hco hgen hk)
  refine wpAny_mono (h g L' h₁ _ cells ⟨G.hh, ⟨A, base, env :: outer, _, loose, mean, mg, mb, B', Around.frames_deeper hA, rfl, hk, X₀.keeps st, T.keeps st⟩⟩ F' N' Y hlt) (fun fl s' x => by obtain ⟨L', m', news', a, b, c⟩ := x; cases fl <;> exact ⟨L', m', news', a, b, c⟩) (fun _ _ x => x.elim)
local macro_rules | `(tactic| walk_at "eval ListComp") => `(tactic| refine Stop.mk ?_)
local macro_rules | `(tactic| walk_at "exec Assign cons ListComp") => `(tactic| refine Stop.mk ?_)
def leftOf (ms : List Nat) : List Nat := (List.range 10).filter fun d => !(ms.contains d)
set_option maxRecDepth 100000 in
set_option maxHeartbeats 4000000 in
theorem left_spec {w : World} {A : Around} {h₀ : Heap} {L : Addr} {s : Shared} {m : Str → Option Value} {news : List (Addr × Obj)} {l : Addr} {vs : List Value} {ms : List Nat} {n : Nat} {Q E : Value → Shared → Prop}
    (G : Sit w A h₀ L) (F : Fr h₀ L s.heap m) (N : News h₀ L s.heap news) (hd : A.depth + 2 < recursionLimit) (hu : A.units + 16 < cLine)
    (hl : (l, lst vs n) ∈ news) (hI : IntsAre vs (iz ms)) (hz : ms.length ≤ 10)
    (hret : ∀ r vs' n' h' tk', Fr h₀ L h' m → News h₀ L h' ((r, lst vs' n') :: news) → (∀ p ∈ news, p.1 < r) → IntsAre vs' (iz (leftOf ms)) → Q (.ref r) { s with heap := h', toks := tk' }) :
    wpAny (model PG w) A (call (.ref 154) [.ref l]) Q E s := by
  w_on
  w_strict (
  refine' enterC [(Str.ofString "marks", .ref l)] G F N ?k6 ?k7 ?k8 ?k9 ?kB ?kD ?_ ?c2 ?c3 ?c4
  (case k6 => k_dflt k_is)
  (case k7 => k_dflt k_is)
  (case k8 => walk_at "room")
  (case k9 => exact rfl)
  (case kB => exact rfl)
  (case kD => decide +kernel)
  (case c2 => exact rfl)
  (case c3 => exact rfl)
  (case c4 => exact rfl)
  intro g L' h₁ tk cells G' F' N' X' lt'
  refine cps fun P9 k9 => ?_
  obtain ⟨A₀', base', outer', env', loose', mean', mg', mb', B', hA', hf', hke', KX', T'⟩ := G'.ex
  refine k9 ?_
  clear k9 P9
  obtain ⟨oM, he, hoM⟩ := CellsAre.one X'
  subst he
  k_steps
  (intro stop9; clear stop9)
  refine listcomp_start [(Str.ofString "marks", L' + 1)] (by with_unfolding_all rfl) rfl (by decide) ?_
  k_steps
  rename_i R2 F2 N2 _
  have hoM' : oM.data = .cell (some (.ref l)) := hoM
  clear hoM X'
  have hh := G'.hh
  refine range_start (n := 10) F2 N2 R2 (by decide +kernel) (by decide +kernel) fun I h5 F5 N5 hlt hLI hI0 hIs hIt => ?_
  refine' comp_none (σ := Unit) (Walks.range (prog := PG) (w := w) hh I 0 1 10) (fun _ => [(L' + 1, oM)] ++ news) (fun i _ ys => i ≤ 10 ∧ IntsAre ys (iz ((List.range i).filter fun d => !(ms.contains d)))) ()
    (by decide) rfl (by rfl) (by simpa using hIt) (by simpa using hIs) (by simpa using hI0) (fun h => hLI (List.mem_singleton.mp h)) F5 N5 ⟨by (first | assumption | exact Nat.le_of_lt (by assumption) | exact Nat.le_trans (by assumption) (by assumption) | exact Nat.lt_of_lt_of_le (by assumption) (by assumption) | exact Nat.lt_of_le_of_lt (by assumption) (by assumption) | lia), IntsAre.nil⟩ ?_ ?_ ?_
  · rintro i c ys ⟨h9, hys⟩
    refine ⟨?_, fun p hp => ?_⟩
    · rw [hys.length, List.length_map]
      exact Nat.le_trans (List.length_filter_le _ _) (by rw [List.length_range]; (first | assumption | exact Nat.le_of_lt (by assumption) | exact Nat.le_trans (by assumption) (by assumption) | exact Nat.lt_of_lt_of_le (by assumption) (by assumption) | exact Nat.lt_of_le_of_lt (by assumption) (by assumption) | lia))
    · have h1 := hlt p hp
      refine ⟨fun q => Nat.lt_irrefl _ (List.mem_singleton.mp q ▸ h1), Nat.ne_of_lt (Nat.lt_trans h1 hIs), Nat.ne_of_lt (Nat.lt_succ_of_lt (Nat.lt_trans h1 hIs))⟩
  · rintro i c ys v h tk own oC mC k hi ⟨tv, rfl⟩ ⟨h9, hys⟩ hown hO hv F6 N6
    have ev : (0 : Int) + (i : Int) * 1 = (i : Nat) := by (first | assumption | exact Nat.le_of_lt (by assumption) | exact Nat.le_trans (by assumption) (by assumption) | exact Nat.lt_of_lt_of_le (by assumption) (by assumption) | exact Nat.lt_of_le_of_lt (by assumption) (by assumption) | lia)
    rw [ev] at hv
    dsimp only at N6
    refine wpAny_tests_one ?_
    k_steps
    refine notin_list_ints (m_isList (vs := vs) (n := n) N6 (by walk_at "member")) (ns := iz ms) (by assumption) ?_
    rw [any_iz]
    have er : (List.range (i + 1)).filter (fun d => !(ms.contains d)) = (List.range i).filter (fun d => !(ms.contains d)) ++ (if ms.contains i then [] else [i]) := by
      rw [List.range_succ, List.filter_append]
      by_cases e : i ∈ ms <;> simp [e]
    k_steps
    · rename_i e9
      refine c_end () F6 N6 (fun _ h => h) ⟨by (first | assumption | exact Nat.le_of_lt (by assumption) | exact Nat.le_trans (by assumption) (by assumption) | exact Nat.lt_of_lt_of_le (by assumption) (by assumption) | exact Nat.lt_of_le_of_lt (by assumption) (by assumption) | lia), ?_⟩
      rw [er, if_pos e9, List.append_nil]
      exact hys
    · rename_i e9
      refine c_end () F6 N6 (fun _ h => h) ⟨by (first | assumption | exact Nat.le_of_lt (by assumption) | exact Nat.le_trans (by assumption) (by assumption) | exact Nat.lt_of_lt_of_le (by assumption) (by assumption) | exact Nat.lt_of_le_of_lt (by assumption) (by assumption) | lia), ?_⟩
      rw [er, if_neg (by rw [e9]; exact Bool.false_ne_true)]
      show IntsAre _ (List.map _ (_ ++ [i]))
      rw [List.map_append]
      exact ints_snoc hys
  · rintro c ys h tk k ⟨_, hys⟩ F6 N6
    dsimp only at N6 ⊢
    refine out_ret F6 N6 fun F9 N9 => hret _ ys k _ _ F9 (News.sub N9 ?_) ?_ hys
    · intro p hp
      rcases List.mem_cons.mp hp with rfl | hp
      · exact List.mem_cons_self
      · exact List.mem_cons_of_mem _ (List.mem_append_right _ hp)
    · intro p hp
      exact Nat.lt_trans (hlt p (List.mem_append_right _ hp)) hIs)
def digs (n : Nat) : List Nat := (Nat.toDigits 10 n).map fun c => c.toNat - 48
def valOf (xs : List Nat) (ds : List Nat) : Nat := ds.foldl (fun v d => v * xs.length + xs.idxOf d + leastOf xs) 0
theorem iz_idxOf (xs : List Nat) (d : Nat) : (iz xs).idxOf (d : Int) = xs.idxOf d := by
  induction xs with
  | nil => rfl
  | cons x r ih =>
    show (((x : Int) :: iz r)).idxOf (d : Int) = _
    rw [List.idxOf_cons, List.idxOf_cons, ih]
    by_cases e : x = d
    · subst e; simp
    · have e1 : ((x : Int) == (d : Int)) = false := by simpa using (by (first | assumption | exact Nat.le_of_lt (by assumption) | exact Nat.le_trans (by assumption) (by assumption) | exact Nat.lt_of_lt_of_le (by assumption) (by assumption) | exact Nat.lt_of_le_of_lt (by assumption) (by assumption) | lia) : ¬ (x : Int) = (d : Int))
      have e2 : (x == d) = false := by simpa using e
      rw [e1, e2]
theorem toDigits_digit {n : Nat} {c : Char} (h : c ∈ Nat.toDigits 10 n) : 48 ≤ c.toNat ∧ c.toNat ≤ 57 := by
  have h1 := Nat.isDigit_of_mem_toDigits (by decide) (by decide) h
  unfold Char.isDigit at h1
  rw [Bool.and_eq_true, decide_eq_true_eq, decide_eq_true_eq] at h1
  exact ⟨h1.1, h1.2⟩
/-- the signs of a number's text -/
theorem signs_at {v i c : Nat} (h : (Str.ofString (toString ((v : Nat) : Int))).cps[i]? = some c) : ∃ d, (digs v)[i]? = some d ∧ c = d + 48 ∧ d < 10 := by
  have h1 : (Str.ofString (toString ((v : Nat) : Int))).cps.toList[i]? = some c := by rw [Array.getElem?_toList]; exact h
  rw [KIN.signs_num, List.getElem?_map] at h1
  obtain ⟨ch, h2, rfl⟩ := Option.map_eq_some_iff.mp h1
  have h3 := toDigits_digit (List.mem_of_getElem? h2)
  refine ⟨ch.toNat - 48, ?_, (Nat.sub_add_cancel h3.1).symm, Nat.sub_lt_left_of_lt_add h3.1 (Nat.lt_succ_of_le h3.2)⟩
  unfold digs
  rw [List.getElem?_map, h2]
  rfl
theorem signs_size (v : Nat) : (Str.ofString (toString ((v : Nat) : Int))).cps.size = (digs v).length := by
  rw [← Array.length_toList, KIN.signs_num]
  unfold digs
  rw [List.length_map, List.length_map]
theorem read_sign {d : Nat} (h : d < 10) : PySem.intText? ⟨#[d + 48]⟩ = some (d : Int) := by
  have := (by decide +kernel : ∀ d : Fin 10, PySem.intText? ⟨#[d.val + 48]⟩ = some (d.val : Int)) ⟨d, h⟩
  exact this
theorem valOf_snoc {xs ds : List Nat} {d : Nat} : valOf xs (ds ++ [d]) = valOf xs ds * xs.length + xs.idxOf d + leastOf xs := by
  unfold valOf
  rw [List.foldl_append]
  rfl
set_option maxRecDepth 100000 in
set_option maxHeartbeats 4000000 in
theorem value_spec {w : World} {A : Around} {h₀ : Heap} {L : Addr} {s : Shared} {m : Str → Option Value} {news : List (Addr × Obj)} {l : Addr} {vs : List Value} {xs : List Nat} {n : Nat} {v : Nat} {t : Tok} {Q E : Value → Shared → Prop}
    (G : Sit w A h₀ L) (F : Fr h₀ L s.heap m) (N : News h₀ L s.heap news) (hd : A.depth + 2 < recursionLimit) (hu : A.units + 16 < cLine)
    (hl : (l, lst vs n) ∈ news) (hI : IntsAre vs (iz xs)) (hx : 2 ≤ xs.length) (hx' : xs.length ≤ 10) (hlay : PyData.layable0 (.list ((iz xs).map .int)) = true) (hv' : v < 10 ^ 9) (hds : ∀ d ∈ digs v, d ∈ xs)
    (hret : ∀ t h' tk', Fr h₀ L h' m → News h₀ L h' news → Q (.int (valOf xs (digs v) : Nat) t) { s with heap := h', toks := tk' }) :
    wpAny (model PG w) A (call (.ref 135) [.int v t, .ref l]) Q E s := by
  have hx0 : xs ≠ [] := by intro e; rw [e] at hx; simp at hx
  have hle := leastOf_le xs
  have hlog : ((v : Nat) : Int).natAbs.log2 < 1920 := by
    rw [Int.natAbs_natCast]
    by_cases h0 : v = 0
    · subst h0; decide
    · rw [Nat.log2_lt h0]
      exact Nat.lt_of_lt_of_le hv' (by decide +kernel)
  w_on
  w_strict (
  refine' enter [(Str.ofString "figures", .ref l), (Str.ofString "number", .int v t)] G F N ?k6 ?k7 ?k8 ?k9 ?kp ?kB ?_ ?c2 ?c3 ?c4 ?c5
  (case k6 => k_dflt k_is)
  (case k7 => k_dflt k_is)
  (case k8 => exact roomd (by assumption))
  (case k9 => exact rfl)
  (case kp => exact rfl)
  (case kB => exact locs rfl)
  (case c2 => exact rfl)
  (case c3 => exact rfl)
  (case c4 => exact rfl)
  (case c5 => decide)
  walk_at "enter"
  k_steps
  (intro stop9; clear stop9)
  rename_i F1 N1
  have hh := (‹Sit w (A.deeper _) _ _›).hh
  refine str_start F1 N1 fun I h5 St F5 N5 hlt hLI hI0 hIs W hst => ?_
  refine' loop_at (σ := Nat × Tok) (W _ hh) (fun _ => news) (fun c => [(Str.ofString "value", .int (c.1 : Nat) c.2)]) [] (fun i c => c.1 = valOf xs ((digs v).take i)) (0, ?t1) (fun h => hLI (List.mem_singleton.mp h)) (by simpa using hI0) hst F5 N5 ?_ ?hk rfl ?_ ?_
  case hk => exact List.forall_mem_cons.mpr ⟨by with_unfolding_all exact Eq.refl (some _), fun _ h => nomatch h⟩
  · intro i c _ p hp q
    exact Nat.lt_irrefl _ (List.mem_singleton.mp q ▸ hlt p hp)
  · rintro i ⟨a, ta⟩ _ u h tk own hi ⟨ch, tv, hch, rfl⟩ p1 hown _ _ F6 N6
    dsimp only at p1
    dsimp only [kstB_cons, kstB_nil] at F6
    (try k_fold)
    obtain ⟨d, hd1, rfl, hd2⟩ := signs_at hch
    have hrd := read_sign hd2
    k_steps
    refine KIN.call_text hrd (by show 1 ≤ 640; decide) ?_
    k_steps
    have hdm : d ∈ xs := hds d (List.mem_of_getElem? hd1)
    refine index_list_ints (m_isList (vs := vs) (n := n) N6 (by walk_at "member")) (ns := iz xs) (by assumption) hlay (List.mem_map.mpr ⟨d, hdm, rfl⟩) ?_
    rw [iz_idxOf]
    k_steps
    rename_i F9 N9
    have ev : (a : Int) * (((iz xs).length : Nat) : Int) + ((xs.idxOf d : Nat) : Int) + ((leastOf xs : Nat) : Int) = ((a * xs.length + xs.idxOf d + leastOf xs : Nat) : Int) := by
      rw [iz_length]; push_cast; rfl
    rw [ev] at F9
    refine for_end (a * xs.length + xs.idxOf d + leastOf xs, _) F9 N9 (fun _ h => h) (List.forall_mem_cons.mpr ⟨by with_unfolding_all exact Eq.refl (some _), fun _ h => nomatch h⟩) (by (intro z h1 h2 h3; first | rfl | ((simp only [List.forall_mem_cons, List.not_mem_nil, false_implies, implies_true, and_true, ne_eq] at h2); (simp only [List.contains_cons, List.contains_nil, Bool.or_false, Bool.or_eq_false_iff, beq_eq_false_iff_ne, ne_eq] at h3); (simp [h1, h2, h3]; done)) | ((simp only [List.forall_mem_cons, List.not_mem_nil, false_implies, implies_true, and_true, ne_eq] at h2); (simp [h1, h2]; done)) | (simp [h1]; done) | ((simp only [List.contains_cons, List.contains_nil, Bool.or_false, Bool.or_eq_false_iff, beq_eq_false_iff_ne, ne_eq] at h3); (simp [h1, h3]; done)))) ?_
    show a * xs.length + xs.idxOf d + leastOf xs = valOf xs ((digs v).take (i + 1))
    rw [List.take_add_one, hd1, p1]
    exact valOf_snoc.symm
  · rintro ⟨a, ta⟩ u h tk p1 F6 N6
    dsimp only at p1
    rw [signs_size, List.take_length] at p1
    dsimp only [kstB_cons, kstB_nil] at F6
    (try k_fold)
    k_steps
    exact out_ret F6 N6 fun F9 N9 => cb_retI hret (by rw [p1]) F9 N9)
theorem sub_one_cast {v : Nat} (h : 0 < v) : (v : Int) - 1 = ((v - 1 : Nat) : Int) := (Int.natCast_sub h).symm
def down (xs : List Nat) (low : Nat) : Nat → Nat
  | 0 => 0
  | v + 1 => if leastOf xs < v + 1 ∧ low ≤ nth (leastOf xs) xs v then down xs low v else v + 1
def ups (xs : List Nat) (hi : Nat) (v : Nat) : List Nat :=
  if h : nth (leastOf xs) xs v < hi ∧ nth (leastOf xs) xs v < nth (leastOf xs) xs (v + 1) then nth (leastOf xs) xs v :: ups xs hi (v + 1) else []
termination_by hi - nth (leastOf xs) xs v
decreasing_by exact Nat.sub_lt_sub_left h.1 h.2
def counted (xs : List Nat) (around low : Nat) : List Nat := ups xs (low + 12) (down xs low (valOf xs (digs around)))
theorem down_le (xs : List Nat) (low : Nat) : ∀ v, down xs low v ≤ v
  | 0 => Nat.le_refl _
  | v + 1 => by
    unfold down
    split
    · exact Nat.le_succ_of_le (down_le xs low v)
    · exact Nat.le_refl _
theorem down_ge (xs : List Nat) (low : Nat) : ∀ v, leastOf xs ≤ v → leastOf xs ≤ down xs low v
  | 0, h => h
  | v + 1, h => by
    unfold down
    split
    · rename_i h9
      exact down_ge xs low v (by (first | assumption | exact Nat.le_of_lt (by assumption) | exact Nat.le_trans (by assumption) (by assumption) | exact Nat.lt_of_lt_of_le (by assumption) (by assumption) | exact Nat.lt_of_le_of_lt (by assumption) (by assumption) | lia))
    · exact h
theorem down_stop {xs : List Nat} {low v : Nat} (h : ¬ (leastOf xs < v ∧ low ≤ nth (leastOf xs) xs (v - 1))) : down xs low v = v := by
  cases v with
  | zero => rfl
  | succ v => unfold down; exact if_neg h
theorem down_step {xs : List Nat} {low v : Nat} (h : leastOf xs < v) (h' : low ≤ nth (leastOf xs) xs (v - 1)) : down xs low v = down xs low (v - 1) := by
  cases v with
  | zero => exact absurd h (Nat.not_lt_zero _)
  | succ v => conv => lhs; unfold down
              exact if_pos ⟨h, h'⟩
theorem ups_stop {xs : List Nat} {hi v : Nat} (h : ¬ nth (leastOf xs) xs v < hi) : ups xs hi v = [] := by rw [ups, dif_neg (fun q => h q.1)]
theorem ups_step {xs : List Nat} {hi v : Nat} (h : nth (leastOf xs) xs v < hi) (h' : nth (leastOf xs) xs v < nth (leastOf xs) xs (v + 1)) : ups xs hi v = nth (leastOf xs) xs v :: ups xs hi (v + 1) := by rw [ups, dif_pos ⟨h, h'⟩]
set_option maxRecDepth 100000 in
set_option maxHeartbeats 4000000 in
theorem counted_spec {w : World} {A : Around} {h₀ : Heap} {L : Addr} {s : Shared} {m : Str → Option Value} {news : List (Addr × Obj)} {l : Addr} {vs : List Value} {xs : List Nat} {n : Nat} {around low : Nat} {t u : Tok} {Q E : Value → Shared → Prop}
    (G : Sit w A h₀ L) (F : Fr h₀ L s.heap m) (N : News h₀ L s.heap news) (hd : A.depth + 4 < recursionLimit) (hu : A.units + 32 < cLine)
    (hl : (l, lst vs n) ∈ news) (hI : IntsAre vs (iz xs)) (hx : 2 ≤ xs.length) (hx' : xs.length ≤ 10) (hx9 : ∀ x ∈ xs, x < 10) (hlay : PyData.layable0 (.list ((iz xs).map .int)) = true)
    (hmono : ∀ v, leastOf xs ≤ v → nth (leastOf xs) xs v < nth (leastOf xs) xs (v + 1)) (hge : ∀ v, v ≤ nth (leastOf xs) xs v)
    (ha : around < 10 ^ 8) (hds : ∀ d ∈ digs around, d ∈ xs) (hva : leastOf xs ≤ valOf xs (digs around)) (hvb : valOf xs (digs around) < 10 ^ 8) (hlow : low < 10 ^ 8)
    (hcz : (counted xs around low).length ≤ 100)
    (hret : ∀ r vs' n' h' tk', Fr h₀ L h' m → News h₀ L h' ((r, lst vs' n') :: news) → (∀ p ∈ news, p.1 < r) → IntsAre vs' (iz (counted xs around low)) → Q (.ref r) { s with heap := h', toks := tk' }) :
    wpAny (model PG w) A (call (.ref 142) [.int around t, .ref l, .int low u]) Q E s := by
  have hx0 : xs ≠ [] := by intro e; rw [e] at hx; simp at hx
  have hle := leastOf_le xs
  w_on
  w_strict (
  refine' enter [(Str.ofString "low", .int low u), (Str.ofString "figures", .ref l), (Str.ofString "around", .int around t)] G F N ?k6 ?k7 ?k8 ?k9 ?kp ?kB ?_ ?c2 ?c3 ?c4 ?c5
  (case k6 => k_dflt k_is)
  (case k7 => k_dflt k_is)
  (case k8 => exact roomd (by assumption))
  (case k9 => exact rfl)
  (case kp => exact rfl)
  (case kB => exact locs rfl)
  (case c2 => exact rfl)
  (case c3 => exact rfl)
  (case c4 => exact rfl)
  (case c5 => decide)
  walk_at "enter"
  k_steps
  (intro stop9; clear stop9)
  refine value_spec (xs := xs) (by assumption) (by assumption) (by assumption) (by walk_at "room") (by walk_at "room") (by walk_at "member") (by assumption) hx hx' hlay (by (first | assumption | exact Nat.le_of_lt (by assumption) | exact Nat.le_trans (by assumption) (by assumption) | exact Nat.lt_of_lt_of_le (by assumption) (by assumption) | exact Nat.lt_of_le_of_lt (by assumption) (by assumption) | lia)) hds fun t1 h1 tk1 F1 N1 => ?_
  k_steps
  (intro stop9; clear stop9)
  rename_i F2 N2
  refine' ksw_while (σ := Nat × Tok) (fun _ => news) (fun c => [(Str.ofString "value", .int (c.1 : Nat) c.2)]) (fun _ => True) []
    (fun c => down xs low c.1 = down xs low (valOf xs (digs around)) ∧ leastOf xs ≤ c.1 ∧ c.1 < 10 ^ 8) (fun c => c.1) (valOf xs (digs around), ?t1) F2 N2 trivial ?hk ⟨rfl, hva, hvb⟩ ?_ PassesOwn.never
  case hk => exact List.forall_mem_cons.mpr ⟨by with_unfolding_all exact Eq.refl (some _), fun _ h => nomatch h⟩
  rintro ⟨v1, t1⟩ v2 h2 tk2 - ⟨p1, p2, p3⟩ F3 N3
  dsimp only at p1 p2 p3
  dsimp only [kstB_cons, kstB_nil] at F3
  (try k_fold)
  refine test_cut (fun b => (b = true → leastOf xs < v1 ∧ low ≤ nth (leastOf xs) xs (v1 - 1)) ∧ (b = false → down xs low v1 = v1)) F3 N3 ?_ fun b h5 tk5 hb F5 N5 => ?_
  · clear hret p1 hvb hva hds hlay ha
    k_steps
    · (intro stop9; clear stop9)
      have hv1 : leastOf xs < v1 := Int.ofNat_lt.mp (by assumption)
      rw [sub_one_cast (Nat.lt_of_le_of_lt (Nat.zero_le _) hv1)]
      refine nth_spec (xs := xs) (by assumption) (by assumption) (by assumption) (by walk_at "room") (by walk_at "room") (by walk_at "member") (by assumption) hx hx' hx9 (Nat.lt_of_le_of_lt (Nat.sub_le _ _) (Nat.lt_trans p3 (Nat.pow_lt_pow_right (by decide) (by decide)))) fun t4 h4 tk4 F4 N4 => ?_
      k_steps
      · exact test_end F4 N4 ⟨fun _ => ⟨hv1, Int.ofNat_le.mp (by assumption)⟩, fun e => nomatch e⟩
      · exact test_end F4 N4 ⟨fun e => (nomatch e), fun _ => down_stop (by lia)⟩
    · exact test_end (by assumption) (by assumption) ⟨fun e => (nomatch e), fun _ => down_stop (by lia)⟩
  clear F3 N3
  obtain ⟨b1, b2⟩ := hb
  cases b with
  | true =>
    obtain ⟨b3, b4⟩ := b1 rfl
    clear b1 b2
    k_steps
    rename_i F9 N9
    have hv0 : 0 < v1 := Nat.lt_of_le_of_lt (Nat.zero_le _) b3
    rw [sub_one_cast hv0] at F9
    refine ksw_end (v1 - 1, _) F9 N9 (fun _ h => h) trivial (List.forall_mem_cons.mpr ⟨by with_unfolding_all exact Eq.refl (some _), fun _ h => nomatch h⟩) (by ksw_same) ⟨?_, ?_, ?_⟩ ?_
    · exact (down_step b3 b4).symm.trans p1
    · exact Nat.le_sub_one_of_lt b3
    · exact Nat.lt_of_le_of_lt (Nat.sub_le _ _) p3
    · exact Nat.sub_lt hv0 (by decide)
  | false =>
    rw [b2 rfl] at p1
    clear b1 b2
    k_steps
    rename_i r _ l1 _ F5 N5
    (intro stop9; clear stop9)
    refine nth_spec (xs := xs) (by assumption) F5 N5 (by walk_at "room") (by walk_at "room") (List.mem_cons_of_mem _ hl) (by assumption) hx hx' hx9 (by (first | assumption | exact Nat.le_of_lt (by assumption) | exact Nat.le_trans (by assumption) (by assumption) | exact Nat.lt_of_lt_of_le (by assumption) (by assumption) | exact Nat.lt_of_le_of_lt (by assumption) (by assumption) | lia)) fun t6 h6 tk6 F6 N6 => ?_
    have N6' : News _ _ h6 (put r (lst [] 0) news) := News.sub N6 (fun p hp => by
      rcases List.mem_cons.mp hp with rfl | hp
      · exact List.mem_cons_self
      · exact List.mem_cons_of_mem _ (List.mem_filter.mp hp).1)
    clear N6
    k_steps
    (intro stop9; clear stop9)
    rename_i F7 N7
    refine' ksw_while (σ := List Value × List Nat × Nat × Nat × Tok × Tok) (fun c => put r (lst c.1 c.2.2.2.1) news) (fun c => [(Str.ofString "value", .int (c.2.2.1 : Nat) c.2.2.2.2.1), (Str.ofString "number", .int (nth (leastOf xs) xs c.2.2.1 : Nat) c.2.2.2.2.2)]) (fun _ => True) []
      (fun c => IntsAre c.1 (iz c.2.1) ∧ c.2.1 ++ ups xs (low + 12) c.2.2.1 = counted xs around low ∧ leastOf xs ≤ c.2.2.1 ∧ c.2.2.1 < 10 ^ 8 + 20) (fun c => low + 12 - nth (leastOf xs) xs c.2.2.1) ([], [], v1, 0, ?t7b, ?t8b) F7 N7 trivial ?hkb ⟨IntsAre.nil, ?_, p2, by show v1 < 10 ^ 8 + 20; (first | assumption | exact Nat.le_of_lt (by assumption) | exact Nat.le_trans (by assumption) (by assumption) | exact Nat.lt_of_lt_of_le (by assumption) (by assumption) | exact Nat.lt_of_le_of_lt (by assumption) (by assumption) | lia)⟩ ?_ PassesOwn.never
    case hkb => exact List.forall_mem_cons.mpr ⟨by with_unfolding_all exact Eq.refl (some _), List.forall_mem_cons.mpr ⟨by with_unfolding_all exact Eq.refl (some _), fun _ h => nomatch h⟩⟩
    · show [] ++ ups xs (low + 12) v1 = counted xs around low
      rw [p1]; rfl
    refine fa6 fun ys out v3 ep t3 t4' => ?_
    intro u3 h8 tk8 _ hq F8 N8
    dsimp only at hq N8
    refine an4 hq fun q1 q2 q3 q4 => ?_
    clear hq
    dsimp only [kstB_cons, kstB_nil] at F8
    (try k_fold)
    have hlen : ys.length ≤ 100 := by
      rw [q1.length, List.length_map]
      have := congrArg List.length q2
      rw [List.length_append] at this
      (first | assumption | exact Nat.le_of_lt (by assumption) | exact Nat.le_trans (by assumption) (by assumption) | exact Nat.lt_of_lt_of_le (by assumption) (by assumption) | exact Nat.lt_of_le_of_lt (by assumption) (by assumption) | lia)
    k_steps
    · (intro stop9; clear stop9)
      rename_i e7 _ _ F9 N9
      rw [show (v3 : Int) + 1 = ((v3 + 1 : Nat) : Int) by (first | assumption | exact Nat.le_of_lt (by assumption) | exact Nat.le_trans (by assumption) (by assumption) | exact Nat.lt_of_lt_of_le (by assumption) (by assumption) | exact Nat.lt_of_le_of_lt (by assumption) (by assumption) | lia)] at F9 ⊢
      have hv3 := hge v3
      have hlt3 : nth (leastOf xs) xs v3 < low + 12 := by (first | assumption | exact Nat.le_of_lt (by assumption) | exact Nat.le_trans (by assumption) (by assumption) | exact Nat.lt_of_lt_of_le (by assumption) (by assumption) | exact Nat.lt_of_le_of_lt (by assumption) (by assumption) | lia)
      refine nth_spec (xs := xs) (by assumption) F9 N9 (by walk_at "room") (by walk_at "room") (mem_put hl (Nat.ne_of_lt (l1 _ hl))) (by assumption) hx hx' hx9 (by (first | assumption | exact Nat.le_of_lt (by assumption) | exact Nat.le_trans (by assumption) (by assumption) | exact Nat.lt_of_lt_of_le (by assumption) (by assumption) | exact Nat.lt_of_le_of_lt (by assumption) (by assumption) | lia)) fun t10 h10 tk10 F10 N10 => ?_
      k_steps
      rename_i F11 N11
      refine ksw_end (ys ++ [.int (nth (leastOf xs) xs v3 : Nat) t4'], out ++ [nth (leastOf xs) xs v3], v3 + 1, ep + 1, _, _) F11 N11 (fun _ h => h) trivial (List.forall_mem_cons.mpr ⟨by with_unfolding_all exact Eq.refl (some _), List.forall_mem_cons.mpr ⟨by with_unfolding_all exact Eq.refl (some _), fun _ h => nomatch h⟩⟩) (by ksw_same) ⟨?_, ?_, ?_, ?_⟩ ?_
      · show IntsAre (ys ++ [_]) (List.map _ (out ++ [_]))
        rw [List.map_append]
        exact ints_snoc q1
      · show (out ++ [_]) ++ ups xs (low + 12) (v3 + 1) = counted xs around low
        rw [← q2, ups_step hlt3 (hmono v3 q3), List.append_assoc]
        rfl
      · exact Nat.le_succ_of_le q3
      · show v3 + 1 < 10 ^ 8 + 20
        (first | assumption | exact Nat.le_of_lt (by assumption) | exact Nat.le_trans (by assumption) (by assumption) | exact Nat.lt_of_lt_of_le (by assumption) (by assumption) | exact Nat.lt_of_le_of_lt (by assumption) (by assumption) | lia)
      · show low + 12 - nth (leastOf xs) xs (v3 + 1) < low + 12 - nth (leastOf xs) xs v3
        exact Nat.sub_lt_sub_left hlt3 (hmono v3 q3)
    · try dsimp only
      rw [ups_stop (by (first | assumption | exact Nat.le_of_lt (by assumption) | exact Nat.le_trans (by assumption) (by assumption) | exact Nat.lt_of_lt_of_le (by assumption) (by assumption) | exact Nat.lt_of_le_of_lt (by assumption) (by assumption) | lia)), List.append_nil] at q2
      subst q2
      refine out_ret F8 N8 fun F9 N9 => hret r ys ep _ _ F9 (News.sub N9 ?_) l1 q1
      exact all_cons (put_mem) (fun p hp => mem_put hp (Nat.ne_of_lt (l1 p hp))))
abbrev Item := Value × Int
abbrev nil0 : Item := (.none, 0)
/-- two items of a heap are compared by their keys, and nothing is changed -/
def Cmp (w : World) (Ok : Item → Prop) (tups : List (Addr × Obj)) : Prop :=
  ∀ (x y : Item), Ok x → Ok y → ∀ (A : Around) (s : Shared) (Q E : Value → Shared → Prop), A.units + 8 < cLine → (∀ p ∈ tups, s.heap.get? p.1 = some p.2) →
    (∀ tk, Q (.bool (decide (x.2 < y.2))) { s with toks := tk }) → wpAny (model PG w) A (compareOp .Lt x.1 y.1) Q E s
abbrev fsts (zs : List Item) : List Value := zs.map (·.1)
theorem fsts_getD (zs : List Item) (k : Nat) : (fsts zs).getD k .none = (zs.getD k nil0).1 := by
  simp only [List.getD, List.getElem?_map]
  cases zs[k]? <;> rfl
theorem fsts_set (zs : List Item) (k : Nat) (x : Item) : (fsts zs).set k x.1 = fsts (zs.set k x) := (List.map_set ..).symm
section
variable {w : World} {A : Around} {E : Value → Shared → Prop} {s : Shared} {h₀ : Heap} {L l : Addr} {m : Str → Option Value} {news : List (Addr × Obj)} {zs : List Item} {n : Nat}
theorem m_getZ {value slice : PySem.Expr} {i : Value} {k : Nat} {u : Tok} {Q : Value → Shared → Prop} (hi : i = .int (k : Nat) u := by with_reducible rfl) (N : News h₀ L s.heap news := by assumption) (hm : (l, lst (fsts zs) n) ∈ news := by walk_at "member") (hz : zs.length ≤ 100 := by walk_at "fits") (h1 : k < zs.length := by walk_at "fits") (h : Q (zs.getD k nil0).1 s)
    (hs : subscripted slice false (.ref l) (.int (k : Nat) u) = operate [.ref l, .int (k : Nat) u] (getItem (.ref l) (.int (k : Nat) u)) := by with_unfolding_all rfl) :
    wpAny (model PG w) A (subscriptTail value slice (.ref l) i) Q E s := hi ▸
  m_get N hm (by rw [List.length_map]; (first | exact par_lt_len (by assumption) | exact par_lt (by assumption) | assumption | exact Nat.le_of_lt (by assumption) | exact Nat.lt_of_le_of_lt (by assumption) (by assumption) | lia)) (by (first | exact par_lt_len (by assumption) | exact par_lt (by assumption) | assumption | exact Nat.le_of_lt (by assumption) | exact Nat.lt_of_le_of_lt (by assumption) (by assumption) | lia)) (by rw [List.length_map]; (first | exact par_lt_len (by assumption) | exact par_lt (by assumption) | assumption | exact Nat.le_of_lt (by assumption) | exact Nat.lt_of_le_of_lt (by assumption) (by assumption) | lia)) (by rw [Int.toNat_natCast, fsts_getD]; exact h) hs
theorem m_setZ {i v : Value} {k : Nat} {t : Tok} {x : Item} {news' : List (Addr × Obj)} {Q : Unit → Shared → Prop} (hi : i = .int (k : Nat) t := by with_reducible rfl) (hv : v = x.1 := by with_reducible rfl) (F : Fr h₀ L s.heap m := by assumption) (N : News h₀ L s.heap news := by assumption) (hm : (l, lst (fsts zs) n) ∈ news := by walk_at "member") (hz : zs.length ≤ 100 := by walk_at "fits") (h1 : k < zs.length := by walk_at "fits")
    (hn : put l (lst (fsts (zs.set k x)) n) news = news' := by first | exact put_put | rfl)
    (h : ∀ h', Fr h₀ L h' m → News h₀ L h' news' → Q () { s with heap := h' }) : wpAny (model PG w) A (setItem (.ref l) i v) Q E s := by
  subst hi hv
  exact m_set F N hm (by rw [List.length_map]; (first | exact par_lt_len (by assumption) | exact par_lt (by assumption) | assumption | exact Nat.le_of_lt (by assumption) | exact Nat.lt_of_le_of_lt (by assumption) (by assumption) | lia)) (by (first | exact par_lt_len (by assumption) | exact par_lt (by assumption) | assumption | exact Nat.le_of_lt (by assumption) | exact Nat.lt_of_le_of_lt (by assumption) (by assumption) | lia)) (by rw [List.length_map]; (first | exact par_lt_len (by assumption) | exact par_lt (by assumption) | assumption | exact Nat.le_of_lt (by assumption) | exact Nat.lt_of_le_of_lt (by assumption) (by assumption) | lia)) (by rw [Int.toNat_natCast, fsts_set, hn]; exact h)
theorem rshift1_m {a : Nat} {t u : Tok} {Q : Value → Shared → Prop} (h : ∀ t, Q (.int ((a / 2 : Nat) : Int) t) { s with toks := s.toks + 1 }) :
    wpAny (model PG w) A (binaryOp .RShift (.int (a : Nat) t) (.int 1 u)) Q E s :=
  PyProof.Rows.rshift_int (by decide) (by
    have : Int.fdiv (a : Int) (2 ^ (1 : Int).toNat) = ((a / 2 : Nat) : Int) := fdiv_nat a 2
    rw [this]; exact h _)
theorem m_truthyZ {Q : Bool → Shared → Prop} (N : News h₀ L s.heap news := by assumption) (hm : (l, lst (fsts zs) n) ∈ news := by walk_at "member") (hz : zs.length ≤ 100 := by walk_at "fits")
    (h : Q (decide (0 < zs.length)) { s with toks := s.toks + 1 + 1 }) : wpAny (model PG w) A (truthy (.ref l)) Q E s :=
  m_truthy N hm (by rw [List.length_map]; lia  ) (by have e : (!(fsts zs).isEmpty) = decide (0 < zs.length) := by cases zs <;> simp
                                                     rw [e]; exact h)
theorem m_lenZ {Q : Value → Shared → Prop} (N : News h₀ L s.heap news := by assumption) (hm : (l, lst (fsts zs) n) ∈ news := by walk_at "member") (hz : zs.length ≤ 100 := by walk_at "fits")
    (h : ∀ t, Q (.int (zs.length : Nat) t) { s with toks := s.toks + 1 + 1 }) : wpAny (model PG w) A (call (.builtin "len") [.ref l]) Q E s :=
  m_len N hm (by rw [List.length_map]; (first | exact par_lt_len (by assumption) | exact par_lt (by assumption) | assumption | exact Nat.le_of_lt (by assumption) | exact Nat.lt_of_le_of_lt (by assumption) (by assumption) | lia)) (by rw [List.length_map]; exact h)
theorem cmp_use {Ok : Item → Prop} {tups : List (Addr × Obj)} {o : Obj} {x y : Item} {Q : Value → Shared → Prop} (hC : Cmp w Ok tups) (hT : ∀ p ∈ tups, p ∈ news ∧ p.1 ≠ l) (N : News h₀ L s.heap (put l o news)) (hu : A.units + 8 < cLine) (hx : Ok x) (hy : Ok y)
    (h : ∀ tk, Q (.bool (decide (x.2 < y.2))) { s with toks := tk }) : wpAny (model PG w) A (compareOp .Lt x.1 y.1) Q E s :=
  hC x y hx hy A s Q E hu (fun p hp => (N p (mem_put (hT p hp).1 (hT p hp).2)).1) h
end
local macro_rules | `(tactic| walk_at "zget") => `(tactic| refine m_getZ (h := ?_))
local macro_rules | `(tactic| walk_at "subscriptTail Name Name ref int") => `(tactic| walk_at "zget")
local macro_rules | `(tactic| walk_at "subscriptTail Name Constant ref int") => `(tactic| walk_at "zget")
local macro_rules | `(tactic| walk_at "setItem ref int") => `(tactic| (refine m_setZ (h := ?_); intros))
local macro_rules | `(tactic| walk_at "call builtin:len") => `(tactic| (refine m_lenZ (h := ?_); intro))
local macro_rules | `(tactic| walk_at "truthy ref") => `(tactic| refine m_truthyZ (h := ?_))
local macro_rules | `(tactic| walk_at "binaryOp RShift int int") => `(tactic| refine Stop.mk ?_)
def sd (start : Nat) (x : Item) (zs : List Item) (pos : Nat) : List Item :=
  if start < pos ∧ x.2 < (zs.getD ((pos - 1) / 2) nil0).2 then sd start x (zs.set pos (zs.getD ((pos - 1) / 2) nil0)) ((pos - 1) / 2) else zs.set pos x
termination_by pos
decreasing_by
  rename_i h
  exact par_lt h.1
theorem sd_stop {start : Nat} {x : Item} {zs : List Item} {pos : Nat} (h : ¬ (start < pos ∧ x.2 < (zs.getD ((pos - 1) / 2) nil0).2)) : sd start x zs pos = zs.set pos x := by rw [sd, if_neg h]
theorem sd_step {start : Nat} {x : Item} {zs : List Item} {pos : Nat} (h : start < pos) (h' : x.2 < (zs.getD ((pos - 1) / 2) nil0).2) : sd start x zs pos = sd start x (zs.set pos (zs.getD ((pos - 1) / 2) nil0)) ((pos - 1) / 2) := by rw [sd, if_pos ⟨h, h'⟩]
theorem getD_mem {zs : List Item} {k : Nat} (h : k < zs.length) : zs.getD k nil0 ∈ zs := by
  have : zs.getD k nil0 = zs[k] := by simp [List.getD, List.getElem?_eq_getElem h]
  rw [this]; exact List.getElem_mem _
theorem ok_set {Ok : Item → Prop} {zs : List Item} {k : Nat} {x : Item} (h : ∀ z ∈ zs, Ok z) (hx : Ok x) : ∀ z ∈ zs.set k x, Ok z := fun z hz => by
  rcases List.mem_or_eq_of_mem_set hz with h' | rfl
  · exact h z h'
  · exact hx
set_option maxRecDepth 100000 in
set_option maxHeartbeats 4000000 in
theorem siftdown_spec {w : World} {A : Around} {h₀ : Heap} {L : Addr} {s : Shared} {m : Str → Option Value} {news : List (Addr × Obj)} {l : Addr} {zs : List Item} {n : Nat} {start pos : Nat} {t u : Tok} {Ok : Item → Prop} {tups : List (Addr × Obj)} {Q E : Value → Shared → Prop}
    (G : Sit w A h₀ L) (F : Fr h₀ L s.heap m) (N : News h₀ L s.heap news) (hd : A.depth + 2 < recursionLimit) (hu : A.units + 16 < cLine)
    (hl : (l, lst (fsts zs) n) ∈ news) (hz : zs.length ≤ 100) (hC : Cmp w Ok tups) (hO : ∀ z ∈ zs, Ok z) (hT : ∀ p ∈ tups, p ∈ news ∧ p.1 ≠ l) (hp : pos < zs.length)
    (hret : ∀ h' tk', Fr h₀ L h' m → News h₀ L h' (put l (lst (fsts (sd start (zs.getD pos nil0) zs pos)) n) news) → Q .none { s with heap := h', toks := tk' }) :
    wpAny (model PG w) A (call (.ref 93) [.ref l, .int start t, .int pos u]) Q E s := by
  have hz' : (fsts zs).length ≤ 100 := by rw [List.length_map]; exact hz
  have N0 := put_news N hl
  clear N
  w_on
  w_strict (
  refine' enter [(Str.ofString "pos", .int pos u), (Str.ofString "startpos", .int start t), (Str.ofString "heap", .ref l)] G F N0 ?k6 ?k7 ?k8 ?k9 ?kp ?kB ?_ ?c2 ?c3 ?c4 ?c5
  (case k6 => k_dflt k_is)
  (case k7 => k_dflt k_is)
  (case k8 => exact roomd (by assumption))
  (case k9 => exact rfl)
  (case kp => exact rfl)
  (case kB => exact locs rfl)
  (case c2 => exact rfl)
  (case c3 => exact rfl)
  (case c4 => exact rfl)
  (case c5 => decide)
  walk_at "enter"
  k_steps
  (intro stop9; clear stop9)
  rename_i F1 N1
  refine' ksw_while (σ := List Item × Nat × Tok) (fun c => put l (lst (fsts c.1) n) news) (fun c => [(Str.ofString "pos", .int (c.2.1 : Nat) c.2.2)]) (fun _ => True) [Str.ofString "parentpos", Str.ofString "parent"]
    (fun c => sd start (zs.getD pos nil0) c.1 c.2.1 = sd start (zs.getD pos nil0) zs pos ∧ c.2.1 < c.1.length ∧ c.1.length ≤ 100 ∧ ∀ z ∈ c.1, Ok z) (fun c => c.2.1) (zs, pos, ?t1) F1 N1 trivial ?hk ?hp ?_ PassesOwn.never
  case hk => exact List.forall_mem_cons.mpr ⟨by with_unfolding_all exact Eq.refl (some _), fun _ h => nomatch h⟩
  case hp => exact ⟨rfl, hp, hz, hO⟩
  refine fa3 fun ys q t1 => ?_
  intro v1 h2 tk2 _ hq F2 N2
  dsimp only at hq N2
  refine an4 hq fun p1 p2 p3 p4 => ?_
  clear hq
  dsimp only [kstB_cons, kstB_nil] at F2
  (try k_fold)
  k_steps
  · (intro stop9; clear stop9)
    have hsq : start < q := by lia
    rw [show (q : Int) - 1 = ((q - 1 : Nat) : Int) from (Int.natCast_sub (Nat.lt_of_le_of_lt (Nat.zero_le _) hsq)).symm]
    refine rshift1_m fun t9 => ?_
    k_steps
    refine cmp_use hC hT (by assumption) (by walk_at "room") (hO _ (getD_mem hp)) (p4 _ (getD_mem (by (first | exact par_lt_len (by assumption) | exact par_lt (by assumption) | assumption | exact Nat.le_of_lt (by assumption) | exact Nat.lt_of_le_of_lt (by assumption) (by assumption) | lia)))) fun tk9 => ?_
    k_steps
    · rename_i e8 _ _ _ _ _ _ _ _ _ _ e9 _ _ _ _ _ _ F9 N9
      refine ksw_end (ys.set q (ys.getD ((q - 1) / 2) nil0), (q - 1) / 2, _) F9 N9 (fun _ h => h) trivial (List.forall_mem_cons.mpr ⟨by with_unfolding_all exact Eq.refl (some _), fun _ h => nomatch h⟩) (by ksw_same) ⟨?_, ?_, ?_, ?_⟩ ?_
      · exact (sd_step hsq e9).symm.trans p1
      · show (q - 1) / 2 < (ys.set q _).length
        rw [List.length_set]; (first | exact par_lt_len (by assumption) | exact par_lt (by assumption) | assumption | exact Nat.le_of_lt (by assumption) | exact Nat.lt_of_le_of_lt (by assumption) (by assumption) | lia)
      · show (ys.set q _).length ≤ 100
        rw [List.length_set]; exact p3
      · exact ok_set p4 (p4 _ (getD_mem (by (first | exact par_lt_len (by assumption) | exact par_lt (by assumption) | assumption | exact Nat.le_of_lt (by assumption) | exact Nat.lt_of_le_of_lt (by assumption) (by assumption) | lia))))
      · show (q - 1) / 2 < q
        (first | exact par_lt_len (by assumption) | exact par_lt (by assumption) | assumption | exact Nat.le_of_lt (by assumption) | exact Nat.lt_of_le_of_lt (by assumption) (by assumption) | lia)
    · rename_i e9 _ _ _ F9 N9
      refine out_next F9 N9 fun F8 N8 => hret _ _ F8 ?_
      rw [← p1, sd_stop (fun q => e9 q.2)]
      exact N8
  · rename_i e9 _ F9 N9
    refine out_next F9 N9 fun F8 N8 => hret _ _ F8 ?_
    rw [← p1, sd_stop (by (first | exact par_lt_len (by assumption) | exact par_lt (by assumption) | assumption | exact Nat.le_of_lt (by assumption) | exact Nat.lt_of_le_of_lt (by assumption) (by assumption) | lia))]
    exact N8)
theorem addN {w : World} {A : Around} {E : Value → Shared → Prop} {s : Shared} {a : Nat} {t u : Tok} {Q : Value → Shared → Prop} (h : ∀ t, Q (.int ((a + 1 : Nat) : Int) t) { s with toks := s.toks + 1 }) : wpAny (model PG w) A (binaryOp .Add (.int (a : Nat) t) (.int 1 u)) Q E s :=
  PyProof.Rows.add_int (by have e : (a : Int) + 1 = ((a + 1 : Nat) : Int) := by (first | assumption | exact Nat.le_of_lt (by assumption) | exact Nat.le_trans (by assumption) (by assumption) | exact Nat.lt_of_lt_of_le (by assumption) (by assumption) | exact Nat.lt_of_le_of_lt (by assumption) (by assumption) | lia)
                           rw [e]; exact h _)
theorem mul2N {w : World} {A : Around} {E : Value → Shared → Prop} {s : Shared} {a : Nat} {t u : Tok} {Q : Value → Shared → Prop} (h : ∀ t, Q (.int ((2 * a : Nat) : Int) t) { s with toks := s.toks + 1 }) : wpAny (model PG w) A (binaryOp .Mult (.int 2 t) (.int (a : Nat) u)) Q E s :=
  mul_m (by decide) fun t => by
    have e : 2 * (a : Int) = ((2 * a : Nat) : Int) := by (first | assumption | exact Nat.le_of_lt (by assumption) | exact Nat.le_trans (by assumption) (by assumption) | exact Nat.lt_of_lt_of_le (by assumption) (by assumption) | exact Nat.lt_of_le_of_lt (by assumption) (by assumption) | lia)
    rw [e]; exact h t
local macro_rules | `(tactic| walk_at "binaryOp Add int int") => `(tactic| (with_reducible refine addN ?_; intro))
local macro_rules | `(tactic| walk_at "binaryOp Mult int int") => `(tactic| (with_reducible refine mul2N ?_; intro))
def child (zs : List Item) (pos : Nat) : Nat :=
  if 2 * pos + 2 < zs.length ∧ ¬ (zs.getD (2 * pos + 1) nil0).2 < (zs.getD (2 * pos + 2) nil0).2 then 2 * pos + 2 else 2 * pos + 1
theorem child_pos {zs : List Item} {pos : Nat} : pos < child zs pos := by unfold child; split <;> (first | assumption | exact Nat.le_of_lt (by assumption) | exact Nat.le_trans (by assumption) (by assumption) | exact Nat.lt_of_lt_of_le (by assumption) (by assumption) | exact Nat.lt_of_le_of_lt (by assumption) (by assumption) | lia)
theorem child_lt {zs : List Item} {pos : Nat} (h : 2 * pos + 1 < zs.length) : child zs pos < zs.length := by unfold child; split <;> (first | assumption | exact Nat.le_of_lt (by assumption) | exact Nat.le_trans (by assumption) (by assumption) | exact Nat.lt_of_lt_of_le (by assumption) (by assumption) | exact Nat.lt_of_le_of_lt (by assumption) (by assumption) | lia)
theorem child_step {zs : List Item} {pos : Nat} (h : 2 * pos + 1 < zs.length) : zs.length - child zs pos < zs.length - pos := Nat.sub_lt_sub_left (Nat.lt_trans child_pos (child_lt h)) child_pos
def su (zs : List Item) (pos : Nat) : List Item × Nat :=
  if 2 * pos + 1 < zs.length then su (zs.set pos (zs.getD (child zs pos) nil0)) (child zs pos) else (zs, pos)
termination_by zs.length - pos
decreasing_by
  rename_i h
  rw [List.length_set]
  exact child_step h
theorem su_stop {zs : List Item} {pos : Nat} (h : ¬ 2 * pos + 1 < zs.length) : su zs pos = (zs, pos) := by rw [su, if_neg h]
theorem su_step {zs : List Item} {pos : Nat} (h : 2 * pos + 1 < zs.length) : su zs pos = su (zs.set pos (zs.getD (child zs pos) nil0)) (child zs pos) := by rw [su, if_pos h]
def sup (zs : List Item) (pos : Nat) : List Item := sd pos (zs.getD pos nil0) ((su zs pos).1.set (su zs pos).2 (zs.getD pos nil0)) (su zs pos).2
theorem getD_set_self {zs : List Item} {k : Nat} {x : Item} (h : k < zs.length) : (zs.set k x).getD k nil0 = x := by
  simp [List.getD, h]
/-- a statement's end that goes on, with x told anew -/
def NextR (h₀ : Heap) (L : Addr) (m : Str → Option Value) (news : List (Addr × Obj)) (s : Shared) (x : Str) (c : Nat) (fl : Flow) (s' : Shared) : Prop := fl = .next ∧ ∃ t h tk, s' = { s with heap := h, toks := tk } ∧ Fr h₀ L h (kstB m [(x, .int (c : Nat) t)]) ∧ News h₀ L h news
theorem stm_cut {M : Model} {A : Around} {c : Sem Flow} {Q : Flow → Shared → Prop} {E : Value → Shared → Prop} {h₀ : Heap} {L : Addr} {m : Str → Option Value} {news : List (Addr × Obj)} {s : Shared} {h : Heap} {tk : Nat} (x : Str) (k : Nat) (_ : Fr h₀ L h m) (_ : News h₀ L h news) (h1 : wpAny M A c (NextR h₀ L m news s x k) E { s with heap := h, toks := tk })
    (h2 : ∀ t h tk, Fr h₀ L h (kstB m [(x, .int (k : Nat) t)]) → News h₀ L h news → Q .next { s with heap := h, toks := tk }) : wpAny M A c Q E { s with heap := h, toks := tk } :=
  wpAny_mono h1 (fun fl s' x => by
    refine cps fun P k => ?_
    obtain ⟨rfl, t, h, tk, rfl, F, N⟩ := x
    exact k (h2 t h tk F N)) (fun _ _ x => x)
theorem nextR_same {h₀ : Heap} {L : Addr} {m : Str → Option Value} {news : List (Addr × Obj)} {s : Shared} {x : Str} {c k : Nat} {h : Heap} {tk : Nat} {t : Tok} (F : Fr h₀ L h m) (N : News h₀ L h news) (e : c = k) (hv : m x = some (.int (k : Nat) t)) : NextR h₀ L m news s x c .next { s with heap := h, toks := tk } := by
  refine ⟨rfl, t, h, tk, rfl, ?_, N⟩
  have e9 : kstB m [(x, .int (c : Nat) t)] = m := by
    funext z
    by_cases q : z = x
    · rw [q, hv, ← e]; exact if_pos rfl
    · exact if_neg q
  rw [e9]
  exact F
theorem nextR_new {h₀ : Heap} {L : Addr} {m : Str → Option Value} {news : List (Addr × Obj)} {s : Shared} {x : Str} {c k : Nat} {h : Heap} {tk : Nat} {t : Tok} (F : Fr h₀ L h (fun z => if z = x then some (.int (k : Nat) t) else m z)) (N : News h₀ L h news) (e : c = k) : NextR h₀ L m news s x c .next { s with heap := h, toks := tk } := ⟨rfl, t, h, tk, rfl, e ▸ F, N⟩
--SELF
section
local macro_rules | `(tactic| walk_at "exec If") => `(tactic| refine Stop.mk ?_)
set_option maxRecDepth 100000 in
set_option maxHeartbeats 4000000 in
theorem siftup_spec {w : World} {A : Around} {h₀ : Heap} {L : Addr} {s : Shared} {m : Str → Option Value} {news : List (Addr × Obj)} {l : Addr} {zs : List Item} {n : Nat} {pos : Nat} {u : Tok} {Ok : Item → Prop} {tups : List (Addr × Obj)} {Q E : Value → Shared → Prop}
    (G : Sit w A h₀ L) (F : Fr h₀ L s.heap m) (N : News h₀ L s.heap news) (hd : A.depth + 4 < recursionLimit) (hu : A.units + 32 < cLine)
    (hl : (l, lst (fsts zs) n) ∈ news) (hz : zs.length ≤ 100) (hC : Cmp w Ok tups) (hO : ∀ z ∈ zs, Ok z) (hT : ∀ p ∈ tups, p ∈ news ∧ p.1 ≠ l) (hp : pos < zs.length)
    (hret : ∀ h' tk', Fr h₀ L h' m → News h₀ L h' (put l (lst (fsts (sup zs pos)) n) news) → Q .none { s with heap := h', toks := tk' }) :
    wpAny (model PG w) A (call (.ref 100) [.ref l, .int pos u]) Q E s := by
  have N0 := put_news N hl
  clear N
  w_on
  w_strict (
  refine' enter [(Str.ofString "pos", .int pos u), (Str.ofString "heap", .ref l)] G F N0 ?k6 ?k7 ?k8 ?k9 ?kp ?kB ?_ ?c2 ?c3 ?c4 ?c5
  (case k6 => k_dflt k_is)
  (case k7 => k_dflt k_is)
  (case k8 => exact roomd (by assumption))
  (case k9 => exact rfl)
  (case kp => exact rfl)
  (case kB => exact locs rfl)
  (case c2 => exact rfl)
  (case c3 => exact rfl)
  (case c4 => exact rfl)
  (case c5 => decide)
  walk_at "enter"
  k_steps
  (intro stop9; clear stop9)
  rename_i F1 N1
  refine' ksw_while (σ := List Item × Nat × Tok × Tok) (fun c => put l (lst (fsts c.1) n) news) (fun c => [(Str.ofString "pos", .int (c.2.1 : Nat) c.2.2.1), (Str.ofString "childpos", .int (2 * c.2.1 + 1 : Nat) c.2.2.2)]) (fun _ => True) [Str.ofString "rightpos"]
    (fun c => su c.1 c.2.1 = su zs pos ∧ c.2.1 < c.1.length ∧ c.1.length = zs.length ∧ ∀ z ∈ c.1, Ok z) (fun c => c.1.length - c.2.1) (zs, pos, ?t1, ?t2) F1 N1 trivial ?hk ?hp ?_ PassesOwn.never
  case hk => exact List.forall_mem_cons.mpr ⟨by with_unfolding_all exact Eq.refl (some _), List.forall_mem_cons.mpr ⟨by with_unfolding_all exact Eq.refl (some _), fun _ h => nomatch h⟩⟩
  case hp => exact ⟨rfl, hp, rfl, hO⟩
  refine fa4 fun ys q t1 t2 => ?_
  intro v1 h2 tk2 _ hq F2 N2
  dsimp only at hq N2
  refine an4 hq fun p1 p2 p3 p4 => ?_
  clear hq
  dsimp only [kstB_cons, kstB_nil] at F2
  (try k_fold)
  have p5 : ys.length ≤ 100 := by (first | assumption | exact Nat.le_of_lt (by assumption) | exact Nat.le_trans (by assumption) (by assumption) | exact Nat.lt_of_lt_of_le (by assumption) (by assumption) | exact Nat.lt_of_le_of_lt (by assumption) (by assumption) | lia)
  k_steps
  · (intro stop9; clear stop9)
    rename_i F3 N3
    have hq2 : 2 * q + 1 < ys.length := by lia
    have hc2 := child_lt hq2
    refine stm_cut (Str.ofString "childpos") (child ys q) F3 N3 (wpAny_If ?_) fun t5 h5 tk5 F5 N5 => ?_
    · (try k_fold)
      k_steps
      · refine cmp_use hC hT (by assumption) (by walk_at "room") (p4 _ (getD_mem hq2)) (p4 _ (getD_mem (by (first | assumption | exact Nat.le_of_lt (by assumption) | exact Nat.le_trans (by assumption) (by assumption) | exact Nat.lt_of_lt_of_le (by assumption) (by assumption) | exact Nat.lt_of_le_of_lt (by assumption) (by assumption) | lia)))) fun tk9 => ?_
        k_steps
        · rename_i e9
          exact nextR_same (by assumption) (by assumption) (if_neg (fun h => h.2 e9)) rfl
        · rename_i e9 _ _ _ F9 N9
          exact nextR_new F9 N9 (if_pos ⟨by (first | assumption | exact Nat.le_of_lt (by assumption) | exact Nat.le_trans (by assumption) (by assumption) | exact Nat.lt_of_lt_of_le (by assumption) (by assumption) | exact Nat.lt_of_le_of_lt (by assumption) (by assumption) | lia), e9⟩)
      · rename_i e9
        exact nextR_same (by assumption) (by assumption) (if_neg (by lia)) rfl
    · dsimp only [kstB_cons, kstB_nil] at F5
      k_steps
      rename_i F9 N9
      refine ksw_end (ys.set q (ys.getD (child ys q) nil0), child ys q, _, _) F9 N9 (fun _ h => h) trivial (List.forall_mem_cons.mpr ⟨by with_unfolding_all rfl, List.forall_mem_cons.mpr ⟨by with_unfolding_all rfl, fun _ h => nomatch h⟩⟩) (by ksw_same) ⟨?_, ?_, ?_, ?_⟩ ?_
      · exact (su_step hq2).symm.trans p1
      · show child ys q < (ys.set q _).length
        rw [List.length_set]; exact child_lt hq2
      · show (ys.set q _).length = zs.length
        rw [List.length_set]; exact p3
      · exact ok_set p4 (p4 _ (getD_mem (child_lt hq2)))
      · show (ys.set q _).length - child ys q < ys.length - q
        rw [List.length_set]; exact child_step hq2
  · (intro stop9; clear stop9)
    rename_i e9 _ F9 N9
    refine siftdown_spec (Ok := Ok) (tups := tups) (zs := ys.set q (zs.getD pos nil0)) (by assumption) F9 N9 (by walk_at "room") (by walk_at "room") put_mem (by rw [List.length_set]; exact p5) hC (ok_set p4 (hO _ (getD_mem hp))) (fun p hp => ⟨mem_put (hT p hp).1 (hT p hp).2, (hT p hp).2⟩) (by rw [List.length_set]; exact p2) fun h8 tk8 F8 N8 => ?_
    k_steps
    rw [put_put, getD_set_self p2] at N8
    refine out_next F8 N8 fun F7 N7 => hret _ _ F7 ?_
    rw [su_stop (by (first | assumption | exact Nat.le_of_lt (by assumption) | exact Nat.le_trans (by assumption) (by assumption) | exact Nat.lt_of_lt_of_le (by assumption) (by assumption) | exact Nat.lt_of_le_of_lt (by assumption) (by assumption) | lia))] at p1
    unfold sup
    rw [← p1]
    exact N7)
end
section
variable {w : World} {A : Around} {E : Value → Shared → Prop} {s : Shared} {h₀ : Heap} {L l : Addr} {m : Str → Option Value} {news : List (Addr × Obj)} {zs : List Item} {n : Nat}
theorem m_appendZ {y : Value} {x : Item} {news' : List (Addr × Obj)} {Q : Value → Shared → Prop} (hx : y = x.1 := by with_reducible rfl) (F : Fr h₀ L s.heap m := by assumption) (N : News h₀ L s.heap news := by assumption) (hm : (l, lst (fsts zs) n) ∈ news := by walk_at "member") (hz : zs.length ≤ 100 := by walk_at "fits")
    (hn : put l (lst (fsts (zs ++ [x])) (n + 1)) news = news' := by first | exact put_put | rfl)
    (h : ∀ h', Fr h₀ L h' m → News h₀ L h' news' → Q .none { s with heap := h' }) : wpAny (model PG w) A (call (.builtin "list.append") [.ref l, y]) Q E s := by
  subst hx
  refine m_append F N hm (by rw [List.length_map]; (first | assumption | exact Nat.le_of_lt (by assumption) | exact Nat.le_trans (by assumption) (by assumption) | exact Nat.lt_of_lt_of_le (by assumption) (by assumption) | exact Nat.lt_of_le_of_lt (by assumption) (by assumption) | lia)) ?_
  have e : fsts zs ++ [x.1] = fsts (zs ++ [x]) := by simp
  rw [e, hn]; exact h
theorem m_popZ {x : Item} {news' : List (Addr × Obj)} {Q : Value → Shared → Prop} (F : Fr h₀ L s.heap m := by assumption) (N : News h₀ L s.heap news := by assumption) (hm : (l, lst (fsts (zs ++ [x])) n) ∈ news := by walk_at "member") (hz : zs.length ≤ 100 := by walk_at "fits")
    (hn : put l (lst (fsts zs) (n + 1)) news = news' := by first | exact put_put | rfl)
    (h : ∀ h', Fr h₀ L h' m → News h₀ L h' news' → Q x.1 { s with heap := h' }) : wpAny (model PG w) A (call (.builtin "list.pop") [.ref l]) Q E s :=
  m_pop (vs := fsts zs) (n := n) F N (by have e : fsts zs ++ [x.1] = fsts (zs ++ [x]) := by simp
                                         rw [e]; exact hm) (by rw [List.length_map]; (first | assumption | exact Nat.le_of_lt (by assumption) | exact Nat.le_trans (by assumption) (by assumption) | exact Nat.lt_of_lt_of_le (by assumption) (by assumption) | exact Nat.lt_of_le_of_lt (by assumption) (by assumption) | lia)) (hn ▸ h)
theorem m_getZ0 {value slice : PySem.Expr} {i : Value} {u : Tok} {Q : Value → Shared → Prop} (hi : i = .int 0 u := by with_reducible rfl) (N : News h₀ L s.heap news := by assumption) (hm : (l, lst (fsts zs) n) ∈ news := by walk_at "member") (hz : zs.length ≤ 100 := by walk_at "fits") (h1 : 0 < zs.length := by walk_at "fits") (h : Q (zs.getD 0 nil0).1 s)
    (hs : subscripted slice false (.ref l) (.int 0 u) = operate [.ref l, .int 0 u] (getItem (.ref l) (.int 0 u)) := by with_unfolding_all rfl) :
    wpAny (model PG w) A (subscriptTail value slice (.ref l) i) Q E s := m_getZ (k := 0) hi N hm hz h1 h hs
theorem m_setZ0 {i v : Value} {t : Tok} {x : Item} {news' : List (Addr × Obj)} {Q : Unit → Shared → Prop} (hi : i = .int 0 t := by with_reducible rfl) (hv : v = x.1 := by with_reducible rfl) (F : Fr h₀ L s.heap m := by assumption) (N : News h₀ L s.heap news := by assumption) (hm : (l, lst (fsts zs) n) ∈ news := by walk_at "member") (hz : zs.length ≤ 100 := by walk_at "fits") (h1 : 0 < zs.length := by walk_at "fits")
    (hn : put l (lst (fsts (zs.set 0 x)) n) news = news' := by first | exact put_put | rfl)
    (h : ∀ h', Fr h₀ L h' m → News h₀ L h' news' → Q () { s with heap := h' }) : wpAny (model PG w) A (setItem (.ref l) i v) Q E s := m_setZ (k := 0) hi hv F N hm hz h1 hn h
end
local macro_rules | `(tactic| walk_at "assign Tuple") => `(tactic| (refine' unpackN_ (by assumption) (by assumption) (News.isTup (by assumption) (by walk_at "member")) (Sit.hh (by assumption)) (by with_unfolding_all rfl) (by with_unfolding_all rfl) ?_; intros))
local macro_rules | `(tactic| walk_at "subscriptTail Name Constant ref int") => `(tactic| refine m_getZ0 (h := ?_))
local macro_rules | `(tactic| walk_at "setItem ref int") => `(tactic| (refine m_setZ0 (h := ?_); intros))
local macro_rules | `(tactic| walk_at "call builtin:list.append") => `(tactic| (refine m_appendZ (h := ?_); intros))
local macro_rules | `(tactic| walk_at "call builtin:list.pop") => `(tactic| (refine m_popZ (h := ?_); intros))
def hpush (zs : List Item) (x : Item) : List Item := sd 0 x (zs ++ [x]) zs.length
set_option maxRecDepth 100000 in
set_option maxHeartbeats 4000000 in
theorem heappush_spec {w : World} {A : Around} {h₀ : Heap} {L : Addr} {s : Shared} {m : Str → Option Value} {news : List (Addr × Obj)} {l : Addr} {zs : List Item} {x : Item} {n : Nat} {Ok : Item → Prop} {tups : List (Addr × Obj)} {Q E : Value → Shared → Prop}
    (G : Sit w A h₀ L) (F : Fr h₀ L s.heap m) (N : News h₀ L s.heap news) (hd : A.depth + 4 < recursionLimit) (hu : A.units + 32 < cLine)
    (hl : (l, lst (fsts zs) n) ∈ news) (hz : zs.length ≤ 50) (hC : Cmp w Ok tups) (hO : ∀ z ∈ zs, Ok z) (hx : Ok x) (hT : ∀ p ∈ tups, p ∈ news ∧ p.1 ≠ l)
    (hret : ∀ h' tk' n', Fr h₀ L h' m → News h₀ L h' (put l (lst (fsts (hpush zs x)) n') news) → Q .none { s with heap := h', toks := tk' }) :
    wpAny (model PG w) A (call (.ref 65) [.ref l, x.1]) Q E s := by
  have N0 := put_news N hl
  clear N
  w_on
  w_strict (
  refine' enter [(Str.ofString "item", x.1), (Str.ofString "heap", .ref l)] G F N0 ?k6 ?k7 ?k8 ?k9 ?kp ?kB ?_ ?c2 ?c3 ?c4 ?c5
  (case k6 => k_dflt k_is)
  (case k7 => k_dflt k_is)
  (case k8 => exact roomd (by assumption))
  (case k9 => exact rfl)
  (case kp => exact rfl)
  (case kB => exact locs rfl)
  (case c2 => exact rfl)
  (case c3 => exact rfl)
  (case c4 => exact rfl)
  (case c5 => decide)
  walk_at "enter"
  k_steps
  (intro stop9; clear stop9)
  rename_i F9 N9 _
  have el : ((zs ++ [x]).length : Int) - 1 = (zs.length : Nat) := by rw [List.length_append, List.length_singleton]; (first | assumption | exact Nat.le_of_lt (by assumption) | exact Nat.le_trans (by assumption) (by assumption) | exact Nat.lt_of_lt_of_le (by assumption) (by assumption) | exact Nat.lt_of_le_of_lt (by assumption) (by assumption) | lia)
  rw [el]
  have eg : (zs ++ [x]).getD zs.length nil0 = x := by simp [List.getD]
  refine siftdown_spec (Ok := Ok) (tups := tups) (start := 0) (by assumption) F9 N9 (by walk_at "room") (by walk_at "room") put_mem (by rw [List.length_append, List.length_singleton]; (first | assumption | exact Nat.le_of_lt (by assumption) | exact Nat.le_trans (by assumption) (by assumption) | exact Nat.lt_of_lt_of_le (by assumption) (by assumption) | exact Nat.lt_of_le_of_lt (by assumption) (by assumption) | lia)) hC ?_ (fun p hp => ⟨mem_put (hT p hp).1 (hT p hp).2, (hT p hp).2⟩) (by rw [List.length_append, List.length_singleton]; (first | assumption | exact Nat.le_of_lt (by assumption) | exact Nat.le_trans (by assumption) (by assumption) | exact Nat.lt_of_lt_of_le (by assumption) (by assumption) | exact Nat.lt_of_le_of_lt (by assumption) (by assumption) | lia)) fun h8 tk8 F8 N8 => ?_
  · intro z hz9
    rcases List.mem_append.mp hz9 with h9 | h9
    · exact hO z h9
    · rw [List.mem_singleton.mp h9]; exact hx
  k_steps
  rw [put_put, eg] at N8
  exact out_next F8 N8 fun F7 N7 => hret _ _ _ F7 N7)
def hpop (zs : List Item) : Item × List Item := match zs.getLast? with
  | none => (nil0, [])
  | some y => if zs.dropLast = [] then (y, []) else (zs.getD 0 nil0, sup (zs.dropLast.set 0 y) 0)
theorem hpop_two {ys : List Item} {y : Item} (h : 0 < ys.length) : hpop (ys ++ [y]) = (ys.getD 0 nil0, sup (ys.set 0 y) 0) := by
  cases ys with
  | nil => exact absurd h (by decide)
  | cons a r =>
    unfold hpop
    have e1 : (a :: r ++ [y]).getLast? = some y := List.getLast?_concat
    rw [e1, List.dropLast_concat]
    rfl
theorem hpop_one {y : Item} : hpop [y] = (y, []) := rfl
set_option maxRecDepth 100000 in
set_option maxHeartbeats 4000000 in
theorem heappop_spec {w : World} {A : Around} {h₀ : Heap} {L : Addr} {s : Shared} {m : Str → Option Value} {news : List (Addr × Obj)} {l : Addr} {zs : List Item} {n : Nat} {Ok : Item → Prop} {tups : List (Addr × Obj)} {Q E : Value → Shared → Prop}
    (G : Sit w A h₀ L) (F : Fr h₀ L s.heap m) (N : News h₀ L s.heap news) (hd : A.depth + 6 < recursionLimit) (hu : A.units + 48 < cLine)
    (hl : (l, lst (fsts zs) n) ∈ news) (hz : zs.length ≤ 50) (hne : zs ≠ []) (hC : Cmp w Ok tups) (hO : ∀ z ∈ zs, Ok z) (hT : ∀ p ∈ tups, p ∈ news ∧ p.1 ≠ l)
    (hret : ∀ h' tk' n', Fr h₀ L h' m → News h₀ L h' (put l (lst (fsts (hpop zs).2) n') news) → Q (hpop zs).1.1 { s with heap := h', toks := tk' }) :
    wpAny (model PG w) A (call (.ref 72) [.ref l]) Q E s := by
  obtain ⟨ys, y, rfl⟩ : ∃ ys y, zs = ys ++ [y] := ⟨zs.dropLast, zs.getLast hne, (List.dropLast_concat_getLast hne).symm⟩
  have N0 := put_news N hl
  have hz' : ys.length ≤ 50 := by rw [List.length_append] at hz; (first | assumption | exact Nat.le_of_lt (by assumption) | exact Nat.le_trans (by assumption) (by assumption) | exact Nat.lt_of_lt_of_le (by assumption) (by assumption) | exact Nat.lt_of_le_of_lt (by assumption) (by assumption) | lia)
  clear N
  w_on
  w_strict (
  refine' enter [(Str.ofString "heap", .ref l)] G F N0 ?k6 ?k7 ?k8 ?k9 ?kp ?kB ?_ ?c2 ?c3 ?c4 ?c5
  (case k6 => k_dflt k_is)
  (case k7 => k_dflt k_is)
  (case k8 => exact roomd (by assumption))
  (case k9 => exact rfl)
  (case kp => exact rfl)
  (case kB => exact locs rfl)
  (case c2 => exact rfl)
  (case c3 => exact rfl)
  (case c4 => exact rfl)
  (case c5 => decide)
  walk_at "enter"
  k_steps
  · (intro stop9; clear stop9)
    rename_i e9 _ _ _ _ _ _ _ _ F8 N8
    refine siftup_spec (Ok := Ok) (tups := tups) (pos := 0) (zs := ys.set 0 y) (by assumption) F8 N8 (by walk_at "room") (by walk_at "room") put_mem (by rw [List.length_set]; (first | assumption | exact Nat.le_of_lt (by assumption) | exact Nat.le_trans (by assumption) (by assumption) | exact Nat.lt_of_lt_of_le (by assumption) (by assumption) | exact Nat.lt_of_le_of_lt (by assumption) (by assumption) | lia)) hC (ok_set (fun z hz9 => hO z (List.mem_append_left _ hz9)) (hO y (List.mem_append_right _ List.mem_cons_self))) (fun p hp => ⟨mem_put (hT p hp).1 (hT p hp).2, (hT p hp).2⟩) (by rw [List.length_set]; (first | assumption | exact Nat.le_of_lt (by assumption) | exact Nat.le_trans (by assumption) (by assumption) | exact Nat.lt_of_lt_of_le (by assumption) (by assumption) | exact Nat.lt_of_le_of_lt (by assumption) (by assumption) | lia)) fun h8 tk8 F8 N8 => ?_
    rw [put_put] at N8
    k_steps
    rw [hpop_two (by (first | assumption | exact Nat.le_of_lt (by assumption) | exact Nat.le_trans (by assumption) (by assumption) | exact Nat.lt_of_lt_of_le (by assumption) (by assumption) | exact Nat.lt_of_le_of_lt (by assumption) (by assumption) | lia))] at hret
    exact out_ret F8 N8 fun F7 N7 => hret _ _ _ F7 N7
  · rename_i F9 N9 _ _ e9
    try dsimp only
    have ey : ys = [] := List.eq_nil_of_length_eq_zero (by (first | assumption | exact Nat.le_of_lt (by assumption) | exact Nat.le_trans (by assumption) (by assumption) | exact Nat.lt_of_lt_of_le (by assumption) (by assumption) | exact Nat.lt_of_le_of_lt (by assumption) (by assumption) | lia))
    subst ey
    exact out_ret F9 N9 fun F7 N7 => hret _ _ _ F7 N7)
def hpp (zs : List Item) (x : Item) : Item × List Item := if zs ≠ [] ∧ (zs.getD 0 nil0).2 < x.2 then (zs.getD 0 nil0, sup (zs.set 0 x) 0) else (x, zs)
set_option maxRecDepth 100000 in
set_option maxHeartbeats 4000000 in
theorem heappushpop_spec {w : World} {A : Around} {h₀ : Heap} {L : Addr} {s : Shared} {m : Str → Option Value} {news : List (Addr × Obj)} {l : Addr} {zs : List Item} {x : Item} {n : Nat} {Ok : Item → Prop} {tups : List (Addr × Obj)} {Q E : Value → Shared → Prop}
    (G : Sit w A h₀ L) (F : Fr h₀ L s.heap m) (N : News h₀ L s.heap news) (hd : A.depth + 6 < recursionLimit) (hu : A.units + 48 < cLine)
    (hl : (l, lst (fsts zs) n) ∈ news) (hz : zs.length ≤ 50) (hC : Cmp w Ok tups) (hO : ∀ z ∈ zs, Ok z) (hx : Ok x) (hT : ∀ p ∈ tups, p ∈ news ∧ p.1 ≠ l)
    (hret : ∀ h' tk' n', Fr h₀ L h' m → News h₀ L h' (put l (lst (fsts (hpp zs x).2) n') news) → Q (hpp zs x).1.1 { s with heap := h', toks := tk' }) :
    wpAny (model PG w) A (call (.ref 79) [.ref l, x.1]) Q E s := by
  have N0 := put_news N hl
  clear N
  w_on
  w_strict (
  refine' enter [(Str.ofString "item", x.1), (Str.ofString "heap", .ref l)] G F N0 ?k6 ?k7 ?k8 ?k9 ?kp ?kB ?_ ?c2 ?c3 ?c4 ?c5
  (case k6 => k_dflt k_is)
  (case k7 => k_dflt k_is)
  (case k8 => exact roomd (by assumption))
  (case k9 => exact rfl)
  (case kp => exact rfl)
  (case kB => exact locs rfl)
  (case c2 => exact rfl)
  (case c3 => exact rfl)
  (case c4 => exact rfl)
  (case c5 => decide)
  walk_at "enter"
  k_steps
  · refine cmp_use hC hT (by assumption) (by walk_at "room") (hO _ (getD_mem (by (first | assumption | exact Nat.le_of_lt (by assumption) | exact Nat.le_trans (by assumption) (by assumption) | exact Nat.lt_of_lt_of_le (by assumption) (by assumption) | exact Nat.lt_of_le_of_lt (by assumption) (by assumption) | lia)))) hx fun tk9 => ?_
    k_steps
    · (intro stop9; clear stop9)
      rename_i e8 e9 _ _ _ _ _ _ _ _ _ _ F9 N9
      have N8 := put_sub N9
      refine siftup_spec (Ok := Ok) (tups := tups) (pos := 0) (zs := zs.set 0 x) (by assumption) F9 N8 (by walk_at "room") (by walk_at "room") put_mem (by rw [List.length_set]; (first | assumption | exact Nat.le_of_lt (by assumption) | exact Nat.le_trans (by assumption) (by assumption) | exact Nat.lt_of_lt_of_le (by assumption) (by assumption) | exact Nat.lt_of_le_of_lt (by assumption) (by assumption) | lia)) hC (ok_set hO hx) (fun p hp => ⟨mem_put (hT p hp).1 (hT p hp).2, (hT p hp).2⟩) (by rw [List.length_set]; (first | assumption | exact Nat.le_of_lt (by assumption) | exact Nat.le_trans (by assumption) (by assumption) | exact Nat.lt_of_lt_of_le (by assumption) (by assumption) | exact Nat.lt_of_le_of_lt (by assumption) (by assumption) | lia)) fun h8 tk8 F8 N8 => ?_
      rw [put_put] at N8
      k_steps
      have ez : hpp zs x = (zs.getD 0 nil0, sup (zs.set 0 x) 0) := if_pos ⟨fun q => by rw [q] at e8; exact absurd e8 (by decide), e9⟩
      rw [ez] at hret
      exact out_ret F8 N8 fun F7 N7 => hret _ _ _ F7 N7
    · rename_i e9
      try dsimp only
      have ez : hpp zs x = (x, zs) := if_neg (fun q => e9 q.2)
      rw [ez] at hret
      exact out_ret (by assumption) (by assumption) fun F7 N7 => hret _ _ _ F7 N7
  · rename_i e9
    try dsimp only
    have ez : hpp zs x = (x, zs) := if_neg (fun q => q.1 (List.eq_nil_of_length_eq_zero (by (first | assumption | exact Nat.le_of_lt (by assumption) | exact Nat.le_trans (by assumption) (by assumption) | exact Nat.lt_of_lt_of_le (by assumption) (by assumption) | exact Nat.lt_of_le_of_lt (by assumption) (by assumption) | lia))))
    rw [ez] at hret
    exact out_ret (by assumption) (by assumption) fun F7 N7 => hret _ _ _ F7 N7)
theorem sd_length {start : Nat} {x : Item} : ∀ (pos : Nat) (zs : List Item), (sd start x zs pos).length = zs.length := by
  intro pos
  induction pos using Nat.strongRecOn with
  | _ pos ih =>
    intro zs
    by_cases h : start < pos ∧ x.2 < (zs.getD ((pos - 1) / 2) nil0).2
    · rw [sd_step h.1 h.2, ih _ (par_lt h.1), List.length_set]
    · rw [sd_stop h, List.length_set]
theorem sd_mem {start : Nat} {x : Item} : ∀ (pos : Nat) (zs : List Item), pos < zs.length → ∀ z ∈ sd start x zs pos, z = x ∨ z ∈ zs := by
  intro pos
  induction pos using Nat.strongRecOn with
  | _ pos ih =>
    intro zs hp z hz
    by_cases h : start < pos ∧ x.2 < (zs.getD ((pos - 1) / 2) nil0).2
    · rw [sd_step h.1 h.2] at hz
      rcases ih _ (par_lt h.1) _ (by rw [List.length_set]; exact par_lt_len hp) z hz with e | e
      · exact .inl e
      · rcases List.mem_or_eq_of_mem_set e with e | e
        · exact .inr e
        · exact .inr (e ▸ getD_mem (par_lt_len hp))
    · rw [sd_stop h] at hz
      rcases List.mem_or_eq_of_mem_set hz with e | e
      · exact .inr e
      · exact .inl e
theorem su_props : ∀ (k : Nat) (zs : List Item) (pos : Nat), zs.length - pos = k → pos < zs.length → (su zs pos).1.length = zs.length ∧ (su zs pos).2 < zs.length ∧ pos ≤ (su zs pos).2 ∧ ∀ z ∈ (su zs pos).1, z ∈ zs := by
  intro k
  induction k using Nat.strongRecOn with
  | _ k ih =>
    intro zs pos hk hp
    by_cases h : 2 * pos + 1 < zs.length
    · have h1 := child_lt h
      have h2 := child_pos (zs := zs) (pos := pos)
      rw [su_step h]
      obtain ⟨a, b, c, d⟩ := ih (zs.length - child zs pos) (hk ▸ child_step h) (zs.set pos (zs.getD (child zs pos) nil0)) (child zs pos) (by rw [List.length_set]) (by rw [List.length_set]; exact h1)
      rw [List.length_set] at a b
      refine ⟨a, b, by (first | assumption | exact Nat.le_of_lt (by assumption) | exact Nat.le_trans (by assumption) (by assumption) | exact Nat.lt_of_lt_of_le (by assumption) (by assumption) | exact Nat.lt_of_le_of_lt (by assumption) (by assumption) | lia), fun z hz => ?_⟩
      rcases List.mem_or_eq_of_mem_set (d z hz) with e | e
      · exact e
      · exact e ▸ getD_mem h1
    · rw [su_stop h]
      exact ⟨rfl, hp, Nat.le_refl _, fun _ hz => hz⟩
theorem sup_length {zs : List Item} {pos : Nat} (hp : pos < zs.length) : (sup zs pos).length = zs.length := by
  unfold sup
  rw [sd_length, List.length_set, (su_props _ zs pos rfl hp).1]
theorem sup_mem {zs : List Item} {pos : Nat} (hp : pos < zs.length) : ∀ z ∈ sup zs pos, z ∈ zs := fun z hz => by
  have h := su_props _ zs pos rfl hp
  rcases sd_mem _ _ (by rw [List.length_set, h.1]; exact h.2.1) z hz with e | e
  · exact e ▸ getD_mem hp
  · rcases List.mem_or_eq_of_mem_set e with e | e
    · exact h.2.2.2 z e
    · exact e ▸ getD_mem hp
def hfy : Nat → List Item → List Item
  | 0, zs => zs
  | k + 1, zs => hfy k (sup zs k)
set_option maxRecDepth 100000 in
set_option maxHeartbeats 4000000 in
theorem heapify_spec {w : World} {A : Around} {h₀ : Heap} {L : Addr} {s : Shared} {m : Str → Option Value} {news : List (Addr × Obj)} {l : Addr} {zs : List Item} {n : Nat} {Ok : Item → Prop} {tups : List (Addr × Obj)} {Q E : Value → Shared → Prop}
    (G : Sit w A h₀ L) (F : Fr h₀ L s.heap m) (N : News h₀ L s.heap news) (hd : A.depth + 6 < recursionLimit) (hu : A.units + 48 < cLine)
    (hl : (l, lst (fsts zs) n) ∈ news) (hz : zs.length ≤ 50) (hC : Cmp w Ok tups) (hO : ∀ z ∈ zs, Ok z) (hT : ∀ p ∈ tups, p ∈ news ∧ p.1 ≠ l)
    (hret : ∀ h' tk' n', Fr h₀ L h' m → News h₀ L h' (put l (lst (fsts (hfy (zs.length / 2) zs)) n') news) → Q .none { s with heap := h', toks := tk' }) :
    wpAny (model PG w) A (call (.ref 86) [.ref l]) Q E s := by
  have N0 := put_news N hl
  clear N
  w_on
  w_strict (
  refine' enter [(Str.ofString "x", .ref l)] G F N0 ?k6 ?k7 ?k8 ?k9 ?kp ?kB ?_ ?c2 ?c3 ?c4 ?c5
  (case k6 => k_dflt k_is)
  (case k7 => k_dflt k_is)
  (case k8 => exact roomd (by assumption))
  (case k9 => exact rfl)
  (case kp => exact rfl)
  (case kB => exact locs rfl)
  (case c2 => exact rfl)
  (case c3 => exact rfl)
  (case c4 => exact rfl)
  (case c5 => decide)
  walk_at "enter"
  k_steps
  rename_i R1 F1 N1 _
  have hdiv : Int.fdiv (zs.length : Int) 2 = ((zs.length / 2 : Nat) : Int) := fdiv_nat zs.length 2
  rw [hdiv] at R1
  have hh := (‹Sit w (A.deeper _) _ _›).hh
  refine rev_start hh F1 N1 R1 (by (first | assumption | exact Nat.le_of_lt (by assumption) | exact Nat.le_trans (by assumption) (by assumption) | exact Nat.lt_of_lt_of_le (by assumption) (by assumption) | exact Nat.lt_of_le_of_lt (by assumption) (by assumption) | lia)) fun I h5 F5 N5 hlt hLI hI0 hIt => ?_
  refine' loop_at (σ := List Item) (Walks.range (prog := PG) (w := w) hh I (((zs.length / 2 : Nat) : Int) - 1) (-1) (zs.length / 2)) (fun c => put l (lst (fsts c) n) news) (fun _ => []) []
    (fun i c => hfy (zs.length / 2 - i) c = hfy (zs.length / 2) zs ∧ c.length = zs.length ∧ ∀ z ∈ c, Ok z) zs (fun h => hLI (List.mem_singleton.mp h)) (by simpa using hI0) (by simpa using hIt) F5 N5 ?_ (fun _ h => nomatch h) ⟨rfl, rfl, hO⟩ ?_ ?_
  · intro i c _ p hp
    have : p.1 < I := by
      rcases List.mem_cons.mp hp with rfl | hp
      · exact hlt (l, lst (fsts zs) n) put_mem
      · exact hlt p (List.mem_cons_of_mem _ hp)
    exact fun q => Nat.lt_irrefl _ (List.mem_singleton.mp q ▸ this)
  · rintro i c v u h tk own hi ⟨tv, rfl⟩ ⟨p1, p2, p3⟩ hown _ _ F6 N6
    have ev : (((zs.length / 2 : Nat) : Int) - 1 + (i : Int) * -1) = ((zs.length / 2 - 1 - i : Nat) : Int) := by (first | assumption | exact Nat.le_of_lt (by assumption) | exact Nat.le_trans (by assumption) (by assumption) | exact Nat.lt_of_lt_of_le (by assumption) (by assumption) | exact Nat.lt_of_le_of_lt (by assumption) (by assumption) | lia)
    rw [ev] at F6
    dsimp only [kstB_cons, kstB_nil] at F6
    (try k_fold)
    k_steps
    (intro stop9; clear stop9)
    have hIl : ∀ p ∈ own, p.1 ≠ l := fun p hp => by
      have h7 := hown p hp
      rw [List.mem_singleton.mp h7]
      exact Nat.ne_of_gt (hlt (l, lst (fsts zs) n) put_mem)
    refine siftup_spec (Ok := Ok) (tups := tups) (zs := c) (by assumption) F6 N6 (by walk_at "room") (by walk_at "room") (List.mem_append_right _ put_mem) (by (first | assumption | exact Nat.le_of_lt (by assumption) | exact Nat.le_trans (by assumption) (by assumption) | exact Nat.lt_of_lt_of_le (by assumption) (by assumption) | exact Nat.lt_of_le_of_lt (by assumption) (by assumption) | lia)) hC p3 (fun p hp => ⟨List.mem_append_right _ (mem_put (hT p hp).1 (hT p hp).2), (hT p hp).2⟩) (by (first | assumption | exact Nat.le_of_lt (by assumption) | exact Nat.le_trans (by assumption) (by assumption) | exact Nat.lt_of_lt_of_le (by assumption) (by assumption) | exact Nat.lt_of_le_of_lt (by assumption) (by assumption) | lia)) fun h8 tk8 F8 N8 => ?_
    k_steps
    refine for_end (sup c (zs.length / 2 - 1 - i)) F8 N8 ?_ (fun _ h => nomatch h) (by (intro z h1 h2 h3; first | rfl | ((simp only [List.forall_mem_cons, List.not_mem_nil, false_implies, implies_true, and_true, ne_eq] at h2); (simp only [List.contains_cons, List.contains_nil, Bool.or_false, Bool.or_eq_false_iff, beq_eq_false_iff_ne, ne_eq] at h3); (simp [h1, h2, h3]; done)) | ((simp only [List.forall_mem_cons, List.not_mem_nil, false_implies, implies_true, and_true, ne_eq] at h2); (simp [h1, h2]; done)) | (simp [h1]; done) | ((simp only [List.contains_cons, List.contains_nil, Bool.or_false, Bool.or_eq_false_iff, beq_eq_false_iff_ne, ne_eq] at h3); (simp [h1, h3]; done)))) ⟨?_, ?_, ?_⟩
    · intro p hp
      rcases List.mem_append.mp hp with h9 | h9
      · exact mem_put (List.mem_append_left _ h9) (hIl p h9)
      · rcases List.mem_cons.mp h9 with rfl | h9
        · exact put_mem
        · have h6 := List.mem_filter.mp h9
          have hne : p.1 ≠ l := by simpa using h6.2
          exact mem_put (List.mem_append_right _ (mem_put h6.1 hne)) hne
    · rw [← p1]
      have : zs.length / 2 - i = (zs.length / 2 - 1 - i) + 1 := by (first | assumption | exact Nat.le_of_lt (by assumption) | exact Nat.le_trans (by assumption) (by assumption) | exact Nat.lt_of_lt_of_le (by assumption) (by assumption) | exact Nat.lt_of_le_of_lt (by assumption) (by assumption) | lia)
      rw [this]
      show hfy (zs.length / 2 - (i + 1)) _ = hfy (zs.length / 2 - 1 - i) _
      rw [show zs.length / 2 - (i + 1) = zs.length / 2 - 1 - i by (first | assumption | exact Nat.le_of_lt (by assumption) | exact Nat.le_trans (by assumption) (by assumption) | exact Nat.lt_of_lt_of_le (by assumption) (by assumption) | exact Nat.lt_of_le_of_lt (by assumption) (by assumption) | lia)]
    · rw [sup_length (by (first | assumption | exact Nat.le_of_lt (by assumption) | exact Nat.le_trans (by assumption) (by assumption) | exact Nat.lt_of_lt_of_le (by assumption) (by assumption) | exact Nat.lt_of_le_of_lt (by assumption) (by assumption) | lia)), p2]
    · exact fun z hz => p3 z (sup_mem (by (first | assumption | exact Nat.le_of_lt (by assumption) | exact Nat.le_trans (by assumption) (by assumption) | exact Nat.lt_of_lt_of_le (by assumption) (by assumption) | exact Nat.lt_of_le_of_lt (by assumption) (by assumption) | lia)) z hz)
  · intro c u h tk hq F6 N6
    refine an3 hq fun p1 p2 p3 => ?_
    clear hq
    rw [Nat.sub_self] at p1
    k_steps
    have p1' : c = hfy (zs.length / 2) zs := p1
    rw [p1'] at N6
    exact out_next F6 N6 fun F7 N7 => hret _ _ _ F7 N7)
/-- where the law's own frame stands: nothing below it -/
structure Sit1 (w : World) (A : Around) (h₀ : Heap) (L : Addr) (env : Env) : Prop where
  hh : A.handled = none
  frames : A.frames = some [env]
  frame : env.frame = some L
  kind : env.scope.kind = .function
  inn : (Mine.hd.heap_39 w.params).In h₀
  top : ∃ (loose : List Str) (mean : ExcName → Option Value) (mg mb : Str → Option Value), loose = looseW Mine.hd.view_39 [] ∧ Top Mine.hd.view_39 loose mean mg mb h₀
/-- the end of a def in which an exception may have been caught: the caller's frame may have been noted -/
def OutE (h₀ : Heap) (L : Addr) (m : Str → Option Value) (oL : Obj) (Q : Value → Shared → Prop) (fl : Flow) (s' : Shared) : Prop :=
  ∃ L' m' new sl, Fr h₀ L' s'.heap m' ∧ News h₀ L' s'.heap (new ++ [(L, { oL with slots := sl })]) ∧ (∀ p ∈ new, p.1 ≠ L) ∧ (Fr h₀ L s'.heap m → News h₀ L s'.heap new → Q (retOf fl) s')
theorem OutE.of {h₀ : Heap} {L L' : Addr} {m m' : Str → Option Value} {oL : Obj} {Q : Value → Shared → Prop} {fl : Flow} {s' : Shared} {new : List (Addr × Obj)} {sl : Array (Option Value)} (F : Fr h₀ L' s'.heap m') (N : News h₀ L' s'.heap (new ++ [(L, { oL with slots := sl })])) (hn : ∀ p ∈ new, p.1 ≠ L)
    (k : Fr h₀ L s'.heap m → News h₀ L s'.heap new → Q (retOf fl) s') : OutE h₀ L m oL Q fl s' := ⟨L', m', new, sl, F, N, hn, k⟩
theorem enterE {w : World} {A : Around} {h₀ : Heap} {L : Addr} {env : Env} {s : Shared} {m : Str → Option Value} {news : List (Addr × Obj)} {name qual : Str} {params : Arguments} {body : List Stmt} {scope : Scope} {dV kV doc pm cdv ct oc : Value} {an od : Option Addr} {osl : Array (Option Value)} {f : Addr} {vals : List Value} {binds : List (Str × Value)} (ps : List (Str × Value)) {Q E : Value → Shared → Prop}
    (G : Sit1 w A h₀ L env) (F : Fr h₀ L s.heap m) (N : News h₀ L s.heap news)
    (ho : (Mine.hd.heap_39 w.params).lookup f = some ⟨oc, od, .func (fnOf name qual params body scope dV kV doc pm an cdv ct), osl⟩)
    (hcd : codeIn (Mine.hd.heap_39 w.params) cdv qual = true) (hroom : A.depth < recursionLimit)
    (hbind : bindArgs (fnOf name qual params body scope dV kV doc pm an cdv ct) ⟨vals, []⟩ = pure binds) (hps : binds.reverse = ps) (hloc : ∀ y ∈ binds, scope.names.lookup y.1 = some .local)
    (h : ∀ L' oL h₁ tk, TI.Frs [env] [(L, oL)] → (∀ p ∈ news, p.1 ≠ L) → (∀ p ∈ news, p.1 < L') → L < L' → Fr h₀ L' h₁ (kstB (fun _ => none) ps) → News h₀ L' h₁ (news ++ [(L, oL)]) →
      wpAny (model PG w) (A.deeper (envOf qual scope L' f cdv)) (execs body (envOf qual scope L' f cdv)) (OutE h₀ L m oL Q) (fun _ _ => False) { s with heap := h₁, toks := tk })
    (hco : scope.isCoroutine = false := by rfl) (hgen : scope.isGenerator = false := by rfl) (hk : scope.kind = .function := by rfl)
    (hcell : ∀ x ∈ scope.names, x.2 ≠ .cell := by decide) :
    wpAny (model PG w) A (call (.ref f) vals) Q E s := by
  refine cps fun P9 k9 => ?_
  obtain ⟨loose, mean, mg, mb, _, T⟩ := G.top
  refine k9 ?_
  clear k9 P9
  have X := G.inn.keeps F.keep
  refine cps fun P9 k9 => ?_
  obtain ⟨oL, es, ep, hL, hLd, hLk, hLf⟩ := F.ns
  refine k9 ?_
  clear k9 P9
  have hLt := Heap.lt_size hL
  subst hps
  have hmap := lookup_kst binds.reverse
  refine wpAny_call (codeAny_call_def (fd := fnOf name qual params body scope dV kV doc pm an cdv ct) (body := body) (binds := binds) hroom (X _ _ ho) rfl (T.nolimit.keeps F.keep) (codeRec_of X hcd) rfl (BindsTo.of_eq hbind) hcell hloc (fun h₁ hns hk₁ => ?_) hco hgen hk)
  have up : ∀ b o, s.heap.get? b = some o → h₁.get? b = some o := fun b o e => hk₁ b o e
  refine wpAny_mono (h s.heap.objs.size oL h₁ _ ⟨by rw [G.kind]; decide, G.frame, ⟨es, ep, hLd⟩, trivial⟩ (fun p hp => (N p hp).2.1) (fun p hp => Heap.lt_size (N p hp).1) hLt
    ⟨hmap ▸ hns, fun b o e => up b o (F.keep b o e), Nat.le_trans F.above (Nat.le_of_lt hLt)⟩ (fun p hp => ?_)) (fun fl s' x => ?_) fun _ _ x => x.elim
  · rcases List.mem_append.mp hp with hp | hp
    · obtain ⟨h1, h2, h3⟩ := N p hp
      exact ⟨up _ _ h1, Nat.ne_of_lt (Heap.lt_size h1), h3⟩
    · rw [List.mem_singleton.mp hp]
      exact ⟨up _ _ hL, Nat.ne_of_lt hLt, Heap.get?_none_of_le F.above⟩
  · refine cps fun P9 k9 => ?_
    obtain ⟨L', m', new, sl, F', N', hne, k⟩ := x
    refine k9 ?_
    clear k9 P9
    have hL' : s'.heap.get? L = some { oL with slots := sl } := (N' _ (List.mem_append_right _ List.mem_cons_self)).1
    have r := k ⟨⟨_, es, ep, hL', hLd, hLk, hLf⟩, F'.keep, F.above⟩ fun p hp => ⟨(N' p (List.mem_append_left _ hp)).1, hne p hp, (N' p (List.mem_append_left _ hp)).2.2⟩
    cases fl <;> exact r
theorem frs_slots {env : Env} {L : Addr} {oL : Obj} (h : TI.Frs [env] [(L, oL)]) (sl : Array (Option Value)) : TI.Frs [env] [(L, { oL with slots := sl })] := ⟨h.1, h.2.1, h.2.2.1, trivial⟩
section
variable {w : World} {A : Around} {E : Value → Shared → Prop} {s : Shared} {h₀ : Heap} {L l : Addr} {m : Str → Option Value} {news : List (Addr × Obj)} {vs : List Value} {ns : List Int} {n : Nat}
theorem ints_erase {j : Nat} : ∀ {vs : List Value} {ns : List Int} (_ : IntsAre vs ns) (j : Nat), IntsAre (vs.eraseIdx j) (ns.eraseIdx j)
  | _, _, .nil, _ => .nil
  | _, _, .cons _ _ h, 0 => h
  | _, _, .cons i t h, j + 1 => .cons i t (ints_erase (j := j) h j)
theorem m_remove {k : Int} {t : Tok} {Q : Value → Shared → Prop} (hh : A.handled = none) (F : Fr h₀ L s.heap m) (N : News h₀ L s.heap news) (hm : (l, lst vs n) ∈ news) (hI : IntsAre vs ns) (hz : ns.length ≤ 1000)
    (h1 : k ∈ ns → ∀ h' vs', Fr h₀ L h' m → IntsAre vs' (ns.erase k) → News h₀ L h' (put l (lst vs' (n + 1)) news) → Q .none { s with heap := h' })
    (h2 : k ∉ ns → ∀ h' tk e, Heap.NewExc s.heap h' e "ValueError" → E (.ref e) { s with heap := h', toks := tk }) :
    wpAny (model PG w) A (call (.builtin "list.remove") [.ref l, .int k t]) Q E s := by
  have z := N _ hm
  have hlen := hI.length
  by_cases hk : k ∈ ns
  · have hj : ns.idxOf k < ns.length := List.idxOf_lt_length_iff.mpr hk
    have N' := put_news N hm
    have U := put_upd (l := l) (o := lst vs n) (o' := lst (vs.eraseIdx (ns.idxOf k)) (n + 1)) (news := news)
    refine cps fun P9 k9 => ?_
    obtain ⟨pre, post, e1, e2, a, b⟩ := U.split
    refine k9 ?_
    clear k9 P9
    rw [e1] at N'
    have hsz : vs.toArray.size = vs.length := List.size_toArray ..
    have he : vs.toArray.eraseIdxIfInBounds (ns.idxOf k) = (vs.eraseIdx (ns.idxOf k)).toArray := by
      unfold Array.eraseIdxIfInBounds
      rw [dif_pos (by rw [hsz]; (first | assumption | exact Nat.le_of_lt (by assumption) | exact Nat.le_trans (by assumption) (by assumption) | exact Nat.lt_of_lt_of_le (by assumption) (by assumption) | exact Nat.lt_of_le_of_lt (by assumption) (by assumption) | lia))]
      apply Array.toList_inj.mp
      rw [Array.toList_eraseIdx]
    refine call_meets PySem.F.slot_list_remove ⟨_, z.1, rfl⟩ PySem.F.entry_list_remove (PySem.F.args_list_remove_2 _ _)
      (MeetsSeq.list_remove l vs.toArray n (.int k t) (isInt k) (fun y hy => eq_isInt k t hI y (by simpa using hy)) (ns.idxOf k) (by rw [hsz]; (first | assumption | exact Nat.le_of_lt (by assumption) | exact Nat.le_trans (by assumption) (by assumption) | exact Nat.lt_of_lt_of_le (by assumption) (by assumption) | exact Nat.lt_of_le_of_lt (by assumption) (by assumption) | lia)) ?_ ?_ (by rw [hsz]; unfold sizeLine; (first | assumption | exact Nat.le_of_lt (by assumption) | exact Nat.le_trans (by assumption) (by assumption) | exact Nat.lt_of_lt_of_le (by assumption) (by assumption) | exact Nat.lt_of_le_of_lt (by assumption) (by assumption) | lia))) ⟨z.1, h1 hk _ _ (F.change (Heap.SameBut.update ..) z.2.1 z.2.2) ?_ (e2 ▸ kl_turn _ N' a b he ?_)⟩
    · show isInt k vs[ns.idxOf k] = true
      rw [isInt_at k hI _ (by (first | assumption | exact Nat.le_of_lt (by assumption) | exact Nat.le_trans (by assumption) (by assumption) | exact Nat.lt_of_lt_of_le (by assumption) (by assumption) | exact Nat.lt_of_le_of_lt (by assumption) (by assumption) | lia)) hj]
      simpa using List.getElem_idxOf hj
    · intro j hjs hlt
      show isInt k vs[j] = false
      rw [isInt_at k hI j (by simpa using hjs) (by (first | assumption | exact Nat.le_of_lt (by assumption) | exact Nat.le_trans (by assumption) (by assumption) | exact Nat.lt_of_lt_of_le (by assumption) (by assumption) | exact Nat.lt_of_le_of_lt (by assumption) (by assumption) | lia))]
      exact ne_of_lt_idxOf hlt _
    · rw [List.erase_eq_eraseIdx_of_idxOf rfl]
      exact ints_erase (j := 0) hI _
    · rw [List.size_toArray, List.size_toArray, List.length_eraseIdx_of_lt (by (first | assumption | exact Nat.le_of_lt (by assumption) | exact Nat.le_trans (by assumption) (by assumption) | exact Nat.lt_of_lt_of_le (by assumption) (by assumption) | exact Nat.lt_of_le_of_lt (by assumption) (by assumption) | lia))]
      (first | assumption | exact Nat.le_of_lt (by assumption) | exact Nat.le_trans (by assumption) (by assumption) | exact Nat.lt_of_lt_of_le (by assumption) (by assumption) | exact Nat.lt_of_le_of_lt (by assumption) (by assumption) | lia)
  · refine call_meets PySem.F.slot_list_remove ⟨_, z.1, rfl⟩ PySem.F.entry_list_remove (PySem.F.args_list_remove_2 _ _)
      (MeetsSeq.list_remove_none l vs.toArray n (.int k t) (isInt k) (fun y hy => eq_isInt k t hI y (by simpa using hy)) ?_) ⟨z.1, hh, fun h' tk e hx => h2 hk h' tk e hx⟩
    intro j hjs
    show isInt k vs[j] = false
    have hj2 : j < ns.length := by simpa [hlen] using hjs
    rw [isInt_at k hI j (by simpa using hjs) hj2]
    simp only [beq_eq_false_iff_ne, ne_eq]
    intro q
    exact hk (q ▸ List.getElem_mem _)
end
local macro_rules | `(tactic| walk_at "call builtin:list.remove") => `(tactic| refine Stop.mk ?_)
local macro_rules | `(tactic| walk_at "noteFrame ref") => `(tactic| refine Stop.mk ?_)
section
def unoR : List Int → List Int → List Int → List Int × List Int
  | [], ys, mis => (mis, ys)
  | x :: r, ys, mis => if x ∈ ys then unoR r (ys.erase x) mis else unoR r ys (mis ++ [x])
theorem ints_app {x : Int} {us : List Value} {ys : List Int} (h : IntsAre us ys) : ∀ xs, ys = xs ++ [x] → ∃ us' t, us = us' ++ [.int x t] ∧ IntsAre us' xs := by
  induction h with
  | nil => intro xs e; cases xs <;> cases e
  | @cons i t vs ns r ih =>
    intro xs e
    cases xs with
    | nil =>
      rw [List.nil_append] at e
      injection e with e1 e2
      subst e1 e2
      cases r
      exact ⟨[], t, rfl, .nil⟩
    | cons a xs =>
      injection e with e1 e2
      subst e1
      obtain ⟨us', t', e', h'⟩ := ih xs e2
      exact ⟨.int i t :: us', t', congrArg _ e', .cons i t h'⟩
theorem ints_unsnoc {x : Int} {us : List Value} {xs : List Int} (h : IntsAre us (xs ++ [x])) : ∃ us' t, us = us' ++ [.int x t] ∧ IntsAre us' xs := ints_app h xs rfl
structure USt where
  us : List Value
  xs : List Int
  ws : List Value
  ys : List Int
  vs : List Value
  ms : List Int
  k1 : Nat
  k2 : Nat
  k3 : Nat
  sl : Array (Option Value)
abbrev tup (vs : List Value) : Obj := { cls := .type "tuple", data := .seq vs.toArray }
local macro_rules | `(tactic| walk_at "call builtin:list.pop") => `(tactic| refine Stop.mk ?_)
local macro_rules | `(tactic| walk_at "truthy ref") => `(tactic| refine Stop.mk ?_)
set_option maxRecDepth 100000 in
set_option maxHeartbeats 4000000 in
theorem unord_spec {w : World} {A : Around} {h₀ : Heap} {L : Addr} {env : Env} {s : Shared} {m : Str → Option Value} {news : List (Addr × Obj)} {l1 l2 : Addr} {us ws : List Value} {xs ys : List Int} {n1 n2 : Nat} {Q E : Value → Shared → Prop}
    (G : Sit1 w A h₀ L env) (F : Fr h₀ L s.heap m) (N : News h₀ L s.heap news) (hd : A.depth + 2 < recursionLimit) (hu : A.units + 16 < cLine)
    (hl1 : (l1, lst us n1) ∈ news) (hl2 : (l2, lst ws n2) ∈ news) (hne : l1 ≠ l2) (hI1 : IntsAre us xs) (hI2 : IntsAre ws ys) (hz1 : xs.length ≤ 100) (hz2 : ys.length ≤ 100)
    (hret : ∀ T mi vs' ws' k1 k2 k3 h' tk', Fr h₀ L h' m → News h₀ L h' ((T, tup [.ref mi, .ref l2]) :: (mi, lst vs' k1) :: (l2, lst ws' k2) :: (l1, lst [] k3) :: news.filter (fun p => p.1 != l1 && p.1 != l2)) → (∀ p ∈ news, p.1 < mi) → mi < T →
      IntsAre vs' (unoR xs.reverse ys []).1 → IntsAre ws' (unoR xs.reverse ys []).2 → Q (.ref T) { s with heap := h', toks := tk' }) :
    wpAny (model PG w) A (call (.ref 114) [.ref l1, .ref l2]) Q E s := by
  w_on
  w_strict (
  refine' enterE [(Str.ofString "actual", .ref l2), (Str.ofString "expected", .ref l1)] G F N ?k6 ?k7 ?k8 ?k9 ?kp ?kB ?_ ?c2 ?c3 ?c4 ?c5
  (case k6 => k_dflt k_is)
  (case k7 => k_dflt k_is)
  (case k8 => walk_at "room")
  (case k9 => exact rfl)
  (case kp => exact rfl)
  (case kB => exact locs rfl)
  (case c2 => exact rfl)
  (case c3 => exact rfl)
  (case c4 => exact rfl)
  (case c5 => decide)
  intro L' oL h₁ tk Fs hnL hltL hLL F' N'
  dsimp only [kstB_cons, kstB_nil] at F'
  refine cps fun P9 k9 => ?_
  obtain ⟨loose, mean, mg, mb, hloose, T⟩ := G.top
  refine k9 ?_
  clear k9 P9
  have KX := G.inn
  k_steps
  (intro stop9; clear stop9)
  subst hloose
  rename_i mi _ hltmi _ F1 N1 _ _
  have hm1 : mi ≠ l1 := Nat.ne_of_gt (hltmi _ (List.mem_append_left _ hl1))
  have hm2 : mi ≠ l2 := Nat.ne_of_gt (hltmi _ (List.mem_append_left _ hl2))
  have hmL : mi ≠ L := Nat.ne_of_gt (hltmi (L, oL) (List.mem_append_right _ List.mem_cons_self))
  have h1L := hnL _ hl1
  have h2L := hnL _ hl2
  have hR : ∀ p ∈ news.filter (fun p => p.1 != l1 && p.1 != l2), p ∈ news ∧ p.1 ≠ l1 ∧ p.1 ≠ l2 ∧ p.1 ≠ mi ∧ p.1 ≠ L := fun p hp => by
    obtain ⟨h9, h8⟩ := List.mem_filter.mp hp
    rw [Bool.and_eq_true, bne_iff_ne, bne_iff_ne] at h8
    exact ⟨h9, h8.1, h8.2, Nat.ne_of_lt (hltmi p (List.mem_append_left _ h9)), hnL p h9⟩
  generalize hRe : news.filter (fun p => p.1 != l1 && p.1 != l2) = R at hR hret
  have hu1 := hI1.length
  refine' ksw_while (σ := USt) (fun c => (mi, lst c.vs c.k1) :: (l2, lst c.ws c.k2) :: (l1, lst c.us c.k3) :: (R ++ [(L, { oL with slots := c.sl })])) (fun _ => []) (fun _ => True) [Str.ofString "item"]
    (fun c => IntsAre c.us c.xs ∧ IntsAre c.ws c.ys ∧ IntsAre c.vs c.ms ∧ unoR c.xs.reverse c.ys c.ms = unoR xs.reverse ys [] ∧ c.xs.length + c.ms.length ≤ 100 ∧ c.ys.length ≤ 100) (fun c => c.xs.length) ⟨us, xs, ws, ys, [], [], 0, n2, n1, oL.slots⟩ F1 (News.sub N1 ?_) trivial (fun _ h => nomatch h) ⟨hI1, hI2, IntsAre.nil, rfl, by show xs.length + 0 ≤ 100; (first | assumption | exact Nat.le_of_lt (by assumption) | exact Nat.le_trans (by assumption) (by assumption) | exact Nat.lt_of_lt_of_le (by assumption) (by assumption) | exact Nat.lt_of_le_of_lt (by assumption) (by assumption) | lia), hz2⟩ ?_ PassesOwn.never
  · exact all_cons (List.mem_cons_self) (fun p hp => List.mem_cons_of_mem _ ((all_cons (List.mem_append_left _ hl2) (all_cons (List.mem_append_left _ hl1) (all_app (fun p hp => List.mem_append_left _ (hR p hp).1) (fun p hp => List.mem_append_right _ hp)))) p hp))
  rintro ⟨us1, xs1, ws1, ys1, vs1, ms1, k1, k2, k3, sl⟩ v2 h2 tk2 - hq F2 N2
  dsimp only at hq N2
  refine an6 hq fun q1 q2 q3 q4 q5 q6 => ?_
  clear hq
  dsimp only [kstB_cons, kstB_nil] at F2
  (try k_fold)
  have e1 := q1.length
  have e2 := q2.length
  have e3 := q3.length
  rcases List.eq_nil_or_concat xs1 with rfl | ⟨xs2, x, rfl⟩
  · obtain rfl : us1 = [] := by cases q1; rfl
    k_steps
    (intro stop9; clear stop9)
    refine m_truthy (vs := []) (n := k3) N2 (by walk_at "member") (by decide) ?_
    k_steps
    rename_i D h3 F3 N3 l3
    have q4' : unoR xs.reverse ys [] = (ms1, ys1) := q4.symm
    refine OutE.of (new := (D, tup [.ref mi, .ref l2]) :: (mi, lst vs1 k1) :: (l2, lst ws1 k2) :: (l1, lst [] k3) :: R) (sl := sl) (F3) (N3) ?_ (fun F4 N4 => hret D mi vs1 ws1 k1 k2 k3 _ _ F4 N4 (fun p hp => hltmi p (List.mem_append_left _ hp)) l3.1 ?_ ?_)
    · exact all_cons (Nat.ne_of_gt (Nat.lt_trans (Nat.lt_of_le_of_ne (Nat.le_of_lt (hltmi (L, oL) (List.mem_append_right _ List.mem_cons_self))) hmL.symm) l3.1)) (all_cons (hmL) (all_cons (h2L) (all_cons (h1L) (fun p hp => (hR p hp).2.2.2.2))))
    · rw [q4']; exact q3
    · rw [q4']; exact q2
  · rw [List.concat_eq_append] at q1 q4 q5 e1
    obtain ⟨us2, tx, rfl, q1'⟩ := ints_unsnoc q1
    k_steps
    (intro stop9; clear stop9)
    refine m_truthy (vs := us2 ++ [.int x tx]) (n := k3) N2 (by walk_at "member") (by (first | assumption | exact Nat.le_of_lt (by assumption) | exact Nat.le_trans (by assumption) (by assumption) | exact Nat.lt_of_lt_of_le (by assumption) (by assumption) | exact Nat.lt_of_le_of_lt (by assumption) (by assumption) | lia)) ?_
    rw [show (us2 ++ [Value.int x tx]).isEmpty = false from by cases us2 <;> rfl]
    k_steps
    (intro stop9; clear stop9)
    refine m_pop (vs := us2) (x := .int x tx) (n := k3) F2 N2 (by walk_at "member") (by rw [q1'.length]; rw [List.length_append] at q5; (first | assumption | exact Nat.le_of_lt (by assumption) | exact Nat.le_trans (by assumption) (by assumption) | exact Nat.lt_of_lt_of_le (by assumption) (by assumption) | exact Nat.lt_of_le_of_lt (by assumption) (by assumption) | lia)) ?_
    intro h3 F3 N3'
    have hRL : ∀ p ∈ R ++ [(L, ({ oL with slots := sl } : Obj))], p.1 ≠ l1 ∧ p.1 ≠ l2 ∧ p.1 ≠ mi := all_app (fun p hp => ⟨(hR p hp).2.1, (hR p hp).2.2.1, (hR p hp).2.2.2.1⟩) (all_one (⟨h1L.symm, h2L.symm, hmL.symm⟩))
    have N3 : News h₀ L' h3 ((mi, lst vs1 k1) :: (l2, lst ws1 k2) :: (l1, lst us2 (k3 + 1)) :: (R ++ [(L, { oL with slots := sl })])) := by
      refine News.sub N3' fun p hp => ?_
      rcases List.mem_cons.mp hp with rfl | hp
      · exact mem_put List.mem_cons_self hm1
      rcases List.mem_cons.mp hp with rfl | hp
      · exact mem_put (List.mem_cons_of_mem _ List.mem_cons_self) hne.symm
      rcases List.mem_cons.mp hp with rfl | hp
      · exact put_mem
      · exact mem_put (List.mem_cons_of_mem _ (List.mem_cons_of_mem _ (List.mem_cons_of_mem _ hp))) (hRL p hp).1
    clear N3' N2 F2
    k_steps
    (intro stop9; clear stop9)
    refine' m_remove (ns := ys1) G.hh ?r1 ?r2 ?r3 q2 (by (first | assumption | exact Nat.le_of_lt (by assumption) | exact Nat.le_trans (by assumption) (by assumption) | exact Nat.lt_of_lt_of_le (by assumption) (by assumption) | exact Nat.lt_of_le_of_lt (by assumption) (by assumption) | lia)) ?_ ?_
    (case r1 => assumption)
    (case r2 => assumption)
    (case r3 => walk_at "member")
    · intro hk h4 ws2 F4 q2' N4
      have N5 : News h₀ L' h4 ((mi, lst vs1 k1) :: (l2, lst ws2 (k2 + 1)) :: (l1, lst us2 (k3 + 1)) :: (R ++ [(L, { oL with slots := sl })])) := by
        refine News.sub N4 fun p hp => ?_
        rcases List.mem_cons.mp hp with rfl | hp
        · exact mem_put List.mem_cons_self hm2
        rcases List.mem_cons.mp hp with rfl | hp
        · exact put_mem
        rcases List.mem_cons.mp hp with rfl | hp
        · exact mem_put (List.mem_cons_of_mem _ (List.mem_cons_of_mem _ List.mem_cons_self)) hne
        · exact mem_put (List.mem_cons_of_mem _ (List.mem_cons_of_mem _ (List.mem_cons_of_mem _ hp))) (hRL p hp).2.1
      clear N4
      k_steps
      refine ksw_end ⟨us2, xs2, ws2, ys1.erase x, vs1, ms1, k1, k2 + 1, k3 + 1, sl⟩ F4 N5 (fun _ h => h) trivial (fun _ h => nomatch h) (by ksw_same) ⟨q1', q2', q3, ?_, ?_, ?_⟩ ?_
      · rw [← q4, List.reverse_append]
        show _ = unoR (x :: xs2.reverse) ys1 ms1
        rw [unoR, if_pos hk]
      · rw [List.length_append] at q5
        show xs2.length + ms1.length ≤ 100
        (first | assumption | exact Nat.le_of_lt (by assumption) | exact Nat.le_trans (by assumption) (by assumption) | exact Nat.lt_of_lt_of_le (by assumption) (by assumption) | exact Nat.lt_of_le_of_lt (by assumption) (by assumption) | lia)
      · exact Nat.le_trans (List.length_erase_le ..) q6
      · show xs2.length < (xs2.concat x).length
        rw [List.length_concat]
        (first | assumption | exact Nat.le_of_lt (by assumption) | exact Nat.le_trans (by assumption) (by assumption) | exact Nat.lt_of_lt_of_le (by assumption) (by assumption) | exact Nat.lt_of_le_of_lt (by assumption) (by assumption) | lia)
    · intro hk h4 tk4 e hx
      rename_i h3' F3' N3' _ _ _ _
      refine TLg.noted_newA (new := (mi, lst vs1 k1) :: (l2, lst ws1 k2) :: (l1, lst us2 (k3 + 1)) :: R) (frs := [(L, { oL with slots := sl })]) G.frames (frs_slots Fs sl) hx F3' N3' ?_ ?_
      · intro p hp
        have hpL' : p.1 ≠ L' := (N3' p (List.mem_append_left _ hp)).2.1
        have hpL : p.1 ≠ L := by
          rcases List.mem_cons.mp hp with rfl | hp
          · exact hmL
          rcases List.mem_cons.mp hp with rfl | hp
          · exact h2L
          rcases List.mem_cons.mp hp with rfl | hp
          · exact h1L
          · exact (hR p hp).2.2.2.2
        intro hq
        rcases List.mem_cons.mp hq with hq | hq
        · exact hpL' hq
        · exact hpL (List.mem_singleton.mp hq)
      · intro h5 frs' SU Fs' H
        obtain ⟨sl', rfl⟩ := TLg.one_up SU
        have H2 := TT.HeldNA.held H
        clear F3' N3'
        k_steps
        rename_i h9 F9 N9
        have N10 : News h₀ L' h9 ((mi, lst (vs1 ++ [.int x tx]) (k1 + 1)) :: (l2, lst ws1 k2) :: (l1, lst us2 (k3 + 1)) :: (R ++ [(L, { oL with slots := sl' })])) := by
          refine News.sub N9 fun p hp => ?_
          rcases List.mem_cons.mp hp with rfl | hp
          · exact put_mem
          refine mem_put (List.mem_cons_of_mem _ hp) ?_
          rcases List.mem_cons.mp hp with rfl | hp
          · exact hm2.symm
          rcases List.mem_cons.mp hp with rfl | hp
          · exact hm1.symm
          rcases List.mem_append.mp hp with hp | hp
          · exact (hR p hp).2.2.2.1
          · rw [List.mem_singleton.mp hp]; exact hmL.symm
        refine ksw_end ⟨us2, xs2, ws1, ys1, vs1 ++ [.int x tx], ms1 ++ [x], k1 + 1, k2, k3 + 1, sl'⟩ F9 N10 (fun _ h => h) trivial (fun _ h => nomatch h) (by ksw_same) ⟨q1', q2, ints_snoc q3, ?_, ?_, q6⟩ ?_
        · rw [← q4, List.reverse_append]
          show _ = unoR (x :: xs2.reverse) ys1 ms1
          rw [unoR, if_neg hk]
        · rw [List.length_append] at q5
          show xs2.length + (ms1 ++ [x]).length ≤ 100
          rw [List.length_append]
          simp only [List.length_singleton] at q5 ⊢
          (first | assumption | exact Nat.le_of_lt (by assumption) | exact Nat.le_trans (by assumption) (by assumption) | exact Nat.lt_of_lt_of_le (by assumption) (by assumption) | exact Nat.lt_of_le_of_lt (by assumption) (by assumption) | lia)
        · show xs2.length < (xs2.concat x).length
          rw [List.length_concat]
          (first | assumption | exact Nat.le_of_lt (by assumption) | exact Nat.le_trans (by assumption) (by assumption) | exact Nat.lt_of_lt_of_le (by assumption) (by assumption) | exact Nat.lt_of_le_of_lt (by assumption) (by assumption) | lia))
end
/-- a call of a def that may raise: over the heap at the call -/
theorem enterR {w : World} {A : Around} {s : Shared} {name qual : Str} {params : Arguments} {body : List Stmt} {scope : Scope} {dV kV doc pm cdv ct oc : Value} {an od : Option Addr} {osl : Array (Option Value)} {f : Addr} {vals : List Value} {binds : List (Str × Value)} (ps : List (Str × Value)) {Q E : Value → Shared → Prop}
    (X : (Mine.hd.heap_39 w.params).In s.heap) (hlim : s.heap.NoLimit)
    (ho : (Mine.hd.heap_39 w.params).lookup f = some ⟨oc, od, .func (fnOf name qual params body scope dV kV doc pm an cdv ct), osl⟩)
    (hcd : codeIn (Mine.hd.heap_39 w.params) cdv qual = true) (hroom : A.depth < recursionLimit)
    (hbind : bindArgs (fnOf name qual params body scope dV kV doc pm an cdv ct) ⟨vals, []⟩ = pure binds) (hps : binds.reverse = ps) (hloc : ∀ y ∈ binds, scope.names.lookup y.1 = some .local)
    (h : ∀ L' h₁ tk, L' = s.heap.objs.size → Fr s.heap L' h₁ (kstB (fun _ => none) ps) → News s.heap L' h₁ [] →
      wpAny (model PG w) (A.deeper (envOf qual scope L' f cdv)) (execs body (envOf qual scope L' f cdv)) (fun fl s' => Q (retOf fl) s')
        (fun e s' => wpAny (model PG w) (A.deeper (envOf qual scope L' f cdv)) (leaving (envOf qual scope L' f cdv) e) (fun _ s'' => E e s'') (fun e' s'' => E e' s'') s') { s with heap := h₁, toks := tk })
    (hco : scope.isCoroutine = false := by rfl) (hgen : scope.isGenerator = false := by rfl) (hk : scope.kind = .function := by rfl)
    (hcell : ∀ x ∈ scope.names, x.2 ≠ .cell := by decide) :
    wpAny (model PG w) A (call (.ref f) vals) Q E s := by
  subst hps
  have hmap := lookup_kst binds.reverse
  refine wpAny_call (codeAny_call_def (fd := fnOf name qual params body scope dV kV doc pm an cdv ct) (body := body) (binds := binds) hroom (X _ _ ho) rfl hlim (codeRec_of X hcd) rfl (BindsTo.of_eq hbind) hcell hloc (fun h₁ hns hk₁ => ?_) hco hgen hk)
  exact wpAny_mono (h _ h₁ _ rfl ⟨hmap ▸ hns, hk₁, Nat.le_refl _⟩ News.nil) (fun fl s' x => by cases fl <;> exact x) (fun _ _ y => wpAny_mono y (fun _ _ z => z) fun _ _ z => z)
set_option maxRecDepth 100000 in
set_option maxHeartbeats 4000000 in
theorem parse_spec {w : World} {A : Around} {s : Shared} {txt host : Str} {p : Addr} {tt th ti : Tok} {loose : List Str} {mean : ExcName → Option Value} {mg mb : Str → Option Value} {Q E : Value → Shared → Prop}
    (hh : A.handled = none) (KX : (Mine.hd.heap_39 w.params).In s.heap) (hloose : loose = looseW Mine.hd.view_39 []) (T : Top Mine.hd.view_39 loose mean mg mb s.heap) (hd : A.depth + 2 < recursionLimit) (hu : A.units + 16 < cLine)
    (hp : s.heap.get? p = some (tup [.str host th, .int 21 ti])) (hn : txt.length ≤ 100) (hn2 : txt.length ≤ sizeLine) {r : Nat}
    (hs3 : Txt.slice txt none (some 3) = Str.ofString "229") (hfl : Txt.find txt (Str.ofString "(") = 13) (hfr : Txt.find3 txt (Str.ofString ")") (Txt.find txt (Str.ofString "(") + 1) = (r : Nat)) (hr1 : 18 ≤ r) (hr2 : r < txt.length) {d body : Str}
    (hi1 : Txt.item txt (Txt.find txt (Str.ofString "(") + 1) = d) (hi2 : Txt.item txt (Txt.find3 txt (Str.ofString ")") (Txt.find txt (Str.ofString "(") + 1) - 1) = d)
    {parts : List Str} {port : Int} (hok : parts.length = 5 → PySem.intText? (parts.getD 3 Str.empty) = some port) (hpl : parts.length = 5 → (parts.getD 3 Str.empty).length ≤ 640)
    (hraise : parts.length ≠ 5 → ∀ sc h h1 e mp tk, sc.kind = .function → Fr s.heap s.heap.objs.size h mp → Heap.MadeExcOf h h1 e (.ref 49) [.str txt tt] →
      wpAny (model PG w) (A.deeper (envOf (Str.ofString "parse229") sc s.heap.objs.size 58 (.ref 57))) (leaving (envOf (Str.ofString "parse229") sc s.heap.objs.size 58 (.ref 57)) (.ref e)) (fun _ s'' => E (.ref e) s'') (fun e' s'' => E e' s'') { s with heap := h1, toks := tk })
    (hret : parts.length = 5 → ∀ h' D tk tp, (∀ b o, s.heap.get? b = some o → h'.get? b = some o) → h'.get? D = some (tup [.str host th, .int port tp]) → s.heap.get? D = none → Q (.ref D) { s with heap := h', toks := tk })
    (hsp : Txt.split body d = parts)
    (hsb : Txt.slice txt (some (Txt.find txt (Str.ofString "(") + 1)) (some (Txt.find3 txt (Str.ofString ")") (Txt.find txt (Str.ofString "(") + 1))) = body) :
    wpAny (model PG w) A (call (.ref 58) [.str txt tt, .ref p]) Q E s := by
  w_on
  w_strict (
  refine' enterR [(Str.ofString "peer", .ref p), (Str.ofString "resp", .str txt tt)] KX T.nolimit ?k6 ?k7 ?k8 ?k9 ?kp ?kB ?_ ?c2 ?c3 ?c4 ?c5
  (case k6 => k_dflt k_is)
  (case k7 => k_dflt k_is)
  (case k8 => walk_at "room")
  (case k9 => exact rfl)
  (case kp => exact rfl)
  (case kB => exact locs rfl)
  (case c2 => exact rfl)
  (case c3 => exact rfl)
  (case c4 => exact rfl)
  (case c5 => decide)
  intro L' h₁ tk hL' F' N'
  dsimp only [kstB_cons, kstB_nil] at F'
  have hs3' : (Txt.slice txt none (some 3) != Str.ofString "229") = false := by rw [hs3]; decide +kernel
  have hfl' : ¬ Txt.find txt (Str.ofString "(") < 0 := by rw [hfl]; decide
  have hfr' : ¬ Txt.find3 txt (Str.ofString ")") (Txt.find txt (Str.ofString "(") + 1) < 0 := by rw [hfr]; (first | assumption | exact Nat.le_of_lt (by assumption) | exact Nat.le_trans (by assumption) (by assumption) | exact Nat.lt_of_lt_of_le (by assumption) (by assumption) | exact Nat.lt_of_le_of_lt (by assumption) (by assumption) | lia)
  have hi3 : (Txt.item txt (Txt.find txt (Str.ofString "(") + 1) != Txt.item txt (Txt.find3 txt (Str.ofString ")") (Txt.find txt (Str.ofString "(") + 1) - 1)) = false := by rw [hi1, hi2]; simp
  k_steps
  · rename_i l1 h5 _ hmap _ _ _ h6 F3 N3 _ _ hne h7 e hx
    have hpe : l1.map (fun x => x.1) = parts := by rw [hmap, hi1, hsb, hsp]
    have hl5 : parts.length ≠ 5 := by rw [← hpe, List.length_map]; (first | assumption | exact Nat.le_of_lt (by assumption) | exact Nat.le_trans (by assumption) (by assumption) | exact Nat.lt_of_lt_of_le (by assumption) (by assumption) | exact Nat.lt_of_le_of_lt (by assumption) (by assumption) | lia)
    subst hL'
    exact hraise hl5 _ _ _ _ _ _ rfl F3 hx
  · rename_i F3 N3 _ _ h9
    refine item_tupleL ⟨_, F3.keep _ _ hp, rfl, 0, rfl⟩ (by decide) (by decide) (j := 0) (x := .str host th) rfl rfl ?_ (by with_unfolding_all rfl) (by intro _; with_unfolding_all rfl)
    k_steps
    rename_i l1 h5 _ hmap _ _ _ _ _ _ _ _ h6 F4 N4 y ty hy
    have hpe : l1.map (fun x => x.1) = parts := by rw [hmap, hi1, hsb, hsp]
    have hl5 : parts.length = 5 := by rw [← hpe, List.length_map]; (first | assumption | exact Nat.le_of_lt (by assumption) | exact Nat.le_trans (by assumption) (by assumption) | exact Nat.lt_of_lt_of_le (by assumption) (by assumption) | exact Nat.lt_of_le_of_lt (by assumption) (by assumption) | lia)
    rw [hpe] at hy
    have hy2 : parts.getD 3 Str.empty = y := by
      rw [List.getD_eq_getElem?_getD, show parts[3]? = some y from hy]; rfl
    refine KIN.call_text (n := port) (by rw [← hy2]; exact hok hl5) (by rw [← hy2]; exact hpl hl5) ?_
    k_steps
    rename_i D h8 F8 N8 _
    exact hret hl5 h8 D _ _ F8.keep (N8 _ List.mem_cons_self).1 (N8 _ List.mem_cons_self).2.2)
section
variable {w : World} {A : Around} {h₀ g h : Heap} {L Lt Lp a ap e : Addr} {env : Env} {oL : Obj} {mt mp : Str → Option Value} {new : List (Addr × Obj)} {tname pname : Str} {tsc psc : Scope} {tcd pcd : Value} {vs : List Value} {s' : Shared} {b₀ : Stmt} {suite : List Stmt} {np pos : Pos} {rest : List ExceptHandler} {Q : Flow → Shared → Prop} {E E' : Value → Shared → Prop}
/-- an error_proto that leaves parse229 is caught by its name in the frame above the law's -/
theorem flight (G : Sit1 w A h₀ L env) (Fs : TI.Frs [env] [(L, oL)]) (F : Fr h₀ Lt g mt) (N : News h₀ Lt g (new ++ [(L, oL)])) (hnew : ∀ p ∈ new, p.1 ≠ L) (Fp : Fr g Lp h mp)
    (hx : Heap.MadeExcOf h s'.heap e (.ref 49) vs)
    (k : ∀ h' sl, Fr h₀ Lt h' mt → News h₀ Lt h' (new ++ [(L, { oL with slots := sl })]) → wpAny (model PG w) ((A.deeper (envOf tname tsc Lt a tcd)).mark (some (.ref e))) (execs (b₀ :: suite) (envOf tname tsc Lt a tcd)) Q E { s' with heap := h' })
    (hkt : tsc.kind = .function) (hkp : psc.kind = .function) (hxk : (envOf tname tsc Lt a tcd).kindOf (Str.ofString "error_proto") = some .globalImplicit)
    (hE : PassesOwnAt (model PG w) ((A.deeper (envOf tname tsc Lt a tcd)).mark (some (.ref e))) (A.deeper (envOf tname tsc Lt a tcd)) (envOf tname tsc Lt a tcd) E) :
    wpAny (model PG w) ((A.deeper (envOf tname tsc Lt a tcd)).deeper (envOf pname psc Lp ap pcd)) (leaving (envOf pname psc Lp ap pcd) (.ref e))
      (fun _ s₁ => wpAny (model PG w) (A.deeper (envOf tname tsc Lt a tcd)) (noteFrame (.ref e) (envOf tname tsc Lt a tcd))
        (fun _ s₂ => wpAny (model PG w) (A.deeper (envOf tname tsc Lt a tcd)) (setFlight (.ref e) none) (fun _ s₃ =>
          wpAny (model PG w) (A.deeper (envOf tname tsc Lt a tcd)) (handleBy (.ref e) (envOf tname tsc Lt a tcd) (.ExceptHandler (some (.Name (Str.ofString "error_proto") np)) none (b₀ :: suite) pos :: rest)) Q E s₃) E s₂) E s₁) E' s' := by
  refine cps fun P9 k9 => ?_
  obtain ⟨loose, mean, mg, mb, hl, T⟩ := G.top
  refine k9 ?_
  clear k9 P9
  have hLg := (N _ (List.mem_append_right _ List.mem_cons_self))
  have hLp : ∀ {b o}, g.get? b = some o → b ≠ Lp := fun hb q => by
    have := Heap.lt_size hb
    rw [q] at this
    exact absurd this (Nat.not_lt.mpr Fp.above)
  have h0L : ∀ {b o}, h₀.get? b = some o → b ≠ Lp ∧ b ≠ Lt ∧ b ≠ L := fun hb =>
    ⟨hLp (F.keep _ _ hb), fun q => absurd (q ▸ Heap.lt_size hb) (Nat.not_lt.mpr F.above), fun q => by
      have h9 : h₀.get? L = none := hLg.2.2
      rw [← q, hb] at h9; cases h9⟩
  have hB : ∀ {b o}, h.get? b = some o → b ≠ Lp → b ≠ Lt → b ≠ L → (TI.gone h [Lp, Lt, L]).get? b = some o := fun hb q1 q2 q3 => by
    rw [TI.gone_get (by simp [q1, q2, q3])]; exact hb
  have hNt : h.Ns Lt mt := by
    refine cps fun P9 k9 => ?_
    obtain ⟨o, es, ep, e1, r⟩ := F.ns
    refine k9 ?_
    clear k9 P9
    exact ⟨o, es, ep, Fp.keep _ _ e1, r⟩
  have hk1 : (envOf pname psc Lp ap pcd).scope.kind ≠ .module := by show psc.kind ≠ .module; rw [hkp]; decide
  have hk2 : (envOf tname tsc Lt a tcd).scope.kind ≠ .module := by show tsc.kind ≠ .module; rw [hkt]; decide
  have hFF : h.FunFrames (TI.gone h [Lp, Lt, L]) (envOf pname psc Lp ap pcd :: envOf tname tsc Lt a tcd :: [env]) :=
    Heap.FunFrames.cons hk1 rfl Fp.ns (TI.gone_none (by simp)) (Heap.FunFrames.cons hk2 rfl hNt (TI.gone_none (by simp)) (Fs.fun fun p hp => by
      rw [List.mem_singleton.mp hp]
      exact ⟨Fp.keep _ _ hLg.1, TI.gone_none (by simp)⟩))
  refine wpAny_leaves_madeW (Around.frames_deeper (Around.frames_deeper G.frames)) rfl (fun b o q => (TI.gone_some q).2) hFF hx fun h1 t x1 x2 x3 x4 => ?_
  refine wpAny_looks_onW (Around.frames_deeper G.frames) rfl x1 fun h4 hheld4 hsm4 => ?_
  refine wpAny_landsW hheld4 fun h5 hheld hsm5 => ?_
  have U0 : h.UpToSlots h5 := (((Heap.UpToSlots.of_keeps hx.keeps).trans x4).trans hsm4).trans hsm5
  have keep : ∀ {h6 : Heap}, (TI.gone h [Lp, Lt, L]).StaysIn h6 → h.UpToSlots h6 → Fr h₀ Lt h6 mt := fun St U =>
    ⟨U.ns hNt, fun b o hb => St b o (hB (Fp.keep _ _ (F.keep _ _ hb)) (h0L hb).1 (h0L hb).2.1 (h0L hb).2.2), F.above⟩
  have F5 := keep hheld.1 U0
  obtain ⟨ob, hob, hobc⟩ := hheld.there
  refine cps fun P9 k9 => ?_
  obtain ⟨nm, q', Nn, bs, bm, hdct, sn, sub, ab, col, dd, k0, k1, k2, k3, k5, newId, hC, hbase, hbT⟩ := kts_cls (C := 49) (T := "BaseException") G.inn (by kernel_rfl)
  refine k9 ?_
  clear k9 P9
  refine wpAny_handleBy_cons (codeAny_handlers_test (name_K F5 G.inn (topRead_of T) (v := .ref 49) (by k_is) ?_ hkt hxk (by decide))) (by intro q; cases q)
  refine wpAny_excMatches_sub_self (F5.keep _ _ hC) hob hobc hbase (codeAny_handlers_suite ?_)
  refine lands_againW hheld fun h6 hfl6 hsm6 => ?_
  have U := U0.trans hsm6
  have F6 := keep hfl6.1 U
  obtain ⟨es, ep, hd⟩ := Fs.2.2.1
  obtain ⟨sl, hsl⟩ := U L oL (Fp.keep _ _ hLg.1) (fun vs q => by rw [hd] at q; cases q)
  refine wpAny_passesOwnAt hE (k h6 sl F6 fun p hp => ?_)
  rcases List.mem_append.mp hp with hp | hp
  · have z := N p (List.mem_append_left _ hp)
    exact ⟨hfl6.1 _ _ (hB (Fp.keep _ _ z.1) (hLp z.1) z.2.1 (hnew p hp)), z.2.1, z.2.2⟩
  · rw [List.mem_singleton.mp hp]
    exact ⟨hsl, hLg.2.1, hLg.2.2⟩
end
theorem cut_same {c : Nat} : ∀ {p q J K : List Nat}, c ∉ p → c ∉ q → p ++ c :: J = q ++ c :: K → p = q ∧ J = K
  | [], [], _, _, _, _, h => ⟨rfl, by simpa using h⟩
  | [], b :: q, _, _, _, hq, h => by
    have h1 : c = b := (List.cons.inj h).1
    exact absurd (h1 ▸ List.mem_cons_self) hq
  | a :: p, [], _, _, hp, _, h => by
    have h1 : a = c := (List.cons.inj h).1
    exact absurd (h1 ▸ List.mem_cons_self) hp
  | a :: p, b :: q, _, _, hp, hq, h => by
    obtain ⟨h1, h2⟩ := List.cons.inj h
    obtain ⟨h3, h4⟩ := cut_same (fun x => hp (List.mem_cons_of_mem _ x)) (fun x => hq (List.mem_cons_of_mem _ x)) h2
    exact ⟨by rw [h1, h3], h4⟩
def joinL (c : Nat) : List Str → List Nat
  | [] => []
  | [x] => x.cps.toList
  | x :: y :: r => x.cps.toList ++ c :: joinL c (y :: r)
theorem join_list (c : Nat) : ∀ ps : List Str, (Str.join ⟨#[c]⟩ ps).cps.toList = joinL c ps
  | [] => rfl
  | [_] => rfl
  | x :: y :: r => by
    have ih := join_list c (y :: r)
    show ((x.cps ++ #[c]) ++ (Str.join ⟨#[c]⟩ (y :: r)).cps).toList = _
    rw [Array.toList_append, Array.toList_append, ih]
    simp [joinL]
theorem join_count {c : Nat} : ∀ {ps : List Str}, ps ≠ [] → (∀ p ∈ ps, c ∉ p.cps.toList) → (joinL c ps).count c + 1 = ps.length
  | [], h, _ => absurd rfl h
  | [x], _, h => by
    show x.cps.toList.count c + 1 = 1
    rw [List.count_eq_zero.mpr (h x List.mem_cons_self)]
  | x :: y :: r, _, h => by
    have ih := join_count (ps := y :: r) (by simp) (fun p hp => h p (List.mem_cons_of_mem _ hp))
    show (x.cps.toList ++ c :: joinL c (y :: r)).count c + 1 = _
    rw [List.count_append, List.count_cons_self, List.count_eq_zero.mpr (h x List.mem_cons_self)]
    simp only [List.length_cons] at ih ⊢
    (first | assumption | exact Nat.le_of_lt (by assumption) | exact Nat.le_trans (by assumption) (by assumption) | exact Nat.lt_of_lt_of_le (by assumption) (by assumption) | exact Nat.lt_of_le_of_lt (by assumption) (by assumption) | lia)
theorem str_list {x y : Str} (h : x.cps.toList = y.cps.toList) : x = y := by
  obtain ⟨⟨x⟩⟩ := x
  obtain ⟨⟨y⟩⟩ := y
  have h : x = y := h
  rw [h]
/-- the fourth part of mark mark mark text mark -/
theorem part_four {c : Nat} {ds : List Nat} {ps : List Str} (hf : ∀ p ∈ ps, c ∉ p.cps.toList) (hj : joinL c ps = [c, c, c] ++ ds ++ [c]) (hn : ps ≠ []) : (ps.length = 5 ↔ c ∉ ds) ∧ (ps.length = 5 → (ps.getD 3 Str.empty).cps.toList = ds) := by
  have hc := join_count hn hf
  have hz : ([c, c, c] ++ ds ++ [c]).count c = 4 + ds.count c := by
    rw [List.count_append, List.count_append]
    simp
    (first | assumption | exact Nat.le_of_lt (by assumption) | exact Nat.le_trans (by assumption) (by assumption) | exact Nat.lt_of_lt_of_le (by assumption) (by assumption) | exact Nat.lt_of_le_of_lt (by assumption) (by assumption) | lia)
  rw [hj, hz] at hc
  refine ⟨⟨fun h => List.count_eq_zero.mp (by (first | assumption | exact Nat.le_of_lt (by assumption) | exact Nat.le_trans (by assumption) (by assumption) | exact Nat.lt_of_lt_of_le (by assumption) (by assumption) | exact Nat.lt_of_le_of_lt (by assumption) (by assumption) | lia)), fun h => by rw [List.count_eq_zero.mpr h] at hc; (first | assumption | exact Nat.le_of_lt (by assumption) | exact Nat.le_trans (by assumption) (by assumption) | exact Nat.lt_of_lt_of_le (by assumption) (by assumption) | exact Nat.lt_of_le_of_lt (by assumption) (by assumption) | lia)⟩, fun h => ?_⟩
  have hd : c ∉ ds := List.count_eq_zero.mp (by (first | assumption | exact Nat.le_of_lt (by assumption) | exact Nat.le_trans (by assumption) (by assumption) | exact Nat.lt_of_lt_of_le (by assumption) (by assumption) | exact Nat.lt_of_le_of_lt (by assumption) (by assumption) | lia))
  obtain ⟨a, p1, rfl⟩ := List.exists_cons_of_length_eq_add_one (n := 4) h
  obtain ⟨b, p2, rfl⟩ := List.exists_cons_of_length_eq_add_one (n := 3) (Nat.succ.inj h)
  obtain ⟨x, p3, rfl⟩ := List.exists_cons_of_length_eq_add_one (n := 2) (Nat.succ.inj (Nat.succ.inj h))
  obtain ⟨y, p4, rfl⟩ := List.exists_cons_of_length_eq_add_one (n := 1) (Nat.succ.inj (Nat.succ.inj (Nat.succ.inj h)))
  obtain ⟨z, p5, rfl⟩ := List.exists_cons_of_length_eq_add_one (n := 0) (Nat.succ.inj (Nat.succ.inj (Nat.succ.inj (Nat.succ.inj h))))
  obtain rfl : p5 = [] := List.eq_nil_of_length_eq_zero (Nat.succ.inj (Nat.succ.inj (Nat.succ.inj (Nat.succ.inj (Nat.succ.inj h)))))
  have ha := hf a List.mem_cons_self
  have hb := hf b (List.mem_cons_of_mem _ List.mem_cons_self)
  have hx := hf x (List.mem_cons_of_mem _ (List.mem_cons_of_mem _ List.mem_cons_self))
  have hy := hf y (List.mem_cons_of_mem _ (List.mem_cons_of_mem _ (List.mem_cons_of_mem _ List.mem_cons_self)))
  obtain ⟨_, h1⟩ := cut_same (q := []) (K := c :: c :: (ds ++ [c])) ha (by simp) (by simpa [joinL] using hj)
  obtain ⟨_, h2⟩ := cut_same (q := []) (K := c :: (ds ++ [c])) hb (by simp) (by simpa [joinL] using h1)
  obtain ⟨_, h3⟩ := cut_same (q := []) (K := ds ++ [c]) hx (by simp) (by simpa [joinL] using h2)
  obtain ⟨h4, _⟩ := cut_same (q := ds) (K := []) hy hd h3
  exact h4
theorem mark_text {v : Nat} (h : v < 10) : Str.ofString (toString ((v : Nat) : Int)) = ⟨#[v + 48]⟩ := by
  exact (by decide +kernel : ∀ v : Fin 10, Str.ofString (toString ((v.val : Nat) : Int)) = ⟨#[v.val + 48]⟩) ⟨v, h⟩
theorem port_text (v : Nat) : (Str.ofString (toString ((v : Nat) : Int))).cps.toList = (digs v).map (· + 48) := by
  rw [KIN.signs_num]
  unfold digs
  rw [List.map_map]
  refine List.map_congr_left fun ch h => ?_
  have := toDigits_digit h
  exact (Nat.sub_add_cancel this.1).symm
def preL : List Nat := [50, 50, 57, 32, 69, 110, 116, 101, 114, 105, 110, 103, 32, 40]
theorem pre_text : Str.ofString "229 Entering (" = ⟨preL.toArray⟩ := by decide +kernel
theorem getD_list (x : Str) (v : Nat) : x.cps.getD v 0 = x.cps.toList.getD v 0 := by
  rw [Array.getD_eq_getD_getElem?, List.getD_eq_getElem?_getD, Array.getElem?_toList]
theorem item_at {x : Str} {i c : Nat} (h : x.cps.toList[i]? = some c) : Txt.item x (i : Int) = ⟨#[c]⟩ := by
  have hlt : i < x.length := by
    show i < x.cps.size
    rw [← Array.length_toList]
    exact (List.getElem?_eq_some_iff.mp h).1
  unfold Txt.item Txt.charAt
  rw [seqIndex_of (by (first | assumption | exact Nat.le_of_lt (by assumption) | exact Nat.le_trans (by assumption) (by assumption) | exact Nat.lt_of_lt_of_le (by assumption) (by assumption) | exact Nat.lt_of_le_of_lt (by assumption) (by assumption) | lia)) (by (first | assumption | exact Nat.le_of_lt (by assumption) | exact Nat.le_trans (by assumption) (by assumption) | exact Nat.lt_of_lt_of_le (by assumption) (by assumption) | exact Nat.lt_of_le_of_lt (by assumption) (by assumption) | lia))]
  rw [Int.toNat_natCast]
  rw [Array.getElem?_toList] at h
  simp [h]
theorem find_at {x : Str} {c : Nat} {i k : Nat} (hi : i ≤ x.length) (hk : x.cps.toList[k]? = some c) (hik : i ≤ k) (hall : ∀ v, i ≤ v → v < k → x.cps.toList.getD v 0 ≠ c) : Txt.find3 x ⟨#[c]⟩ (i : Int) = (k : Nat) := by
  have hlt : k < x.length := by
    show k < x.cps.size
    rw [← Array.length_toList]
    exact (List.getElem?_eq_some_iff.mp hk).1
  have hfi : fromIndex x.length (i : Int) = i := by
    unfold fromIndex
    rw [if_neg (by (first | assumption | exact Nat.le_of_lt (by assumption) | exact Nat.le_trans (by assumption) (by assumption) | exact Nat.lt_of_lt_of_le (by assumption) (by assumption) | exact Nat.lt_of_le_of_lt (by assumption) (by assumption) | lia))]
    (first | assumption | exact Nat.le_of_lt (by assumption) | exact Nat.le_trans (by assumption) (by assumption) | exact Nat.lt_of_lt_of_le (by assumption) (by assumption) | exact Nat.lt_of_le_of_lt (by assumption) (by assumption) | lia)
  have hkc : x.cps.getD k 0 = c := by rw [getD_list, List.getD_eq_getElem?_getD, hk]; rfl
  rcases StrLaws.find3_spec x c i with ⟨_, h⟩ | ⟨j, h, h1, h2, h3, h4⟩
  · exact absurd hkc (h k (by rw [hfi]; exact hik) hlt)
  · rw [hfi] at h1 h4
    have hjk : j = k := by
      rcases Nat.lt_trichotomy j k with q | q | q
      · exact absurd (by rw [← getD_list]; exact h3) (hall j h1 q)
      · exact q
      · exact absurd hkc (h4 k hik q)
    rw [h, hjk]
theorem text_facts {mk p : Nat} (hmk : mk < 10) (hp : p < 100000000) : ∃ (r : Nat) (body : Str) (parts : List Str),
    let d := Str.ofString (toString ((mk : Nat) : Int))
    let txt := Str.ofString "229 Entering (" ++ Txt.mul d 3 ++ Str.ofString (toString ((p : Nat) : Int)) ++ d ++ Str.ofString ")"
    txt.length ≤ 100 ∧ Txt.slice txt none (some 3) = Str.ofString "229" ∧ Txt.find txt (Str.ofString "(") = 13 ∧ Txt.find3 txt (Str.ofString ")") (Txt.find txt (Str.ofString "(") + 1) = (r : Nat) ∧ 18 ≤ r ∧ r < txt.length ∧
    Txt.item txt (Txt.find txt (Str.ofString "(") + 1) = d ∧ Txt.item txt (Txt.find3 txt (Str.ofString ")") (Txt.find txt (Str.ofString "(") + 1) - 1) = d ∧
    Txt.slice txt (some (Txt.find txt (Str.ofString "(") + 1)) (some (Txt.find3 txt (Str.ofString ")") (Txt.find txt (Str.ofString "(") + 1))) = body ∧ Txt.split body d = parts ∧
    (parts.length = 5 ↔ mk ∉ digs p) ∧ (parts.length = 5 → PySem.intText? (parts.getD 3 Str.empty) = some (p : Int)) ∧ (parts.length = 5 → (parts.getD 3 Str.empty).length ≤ 640) := by
  let c := mk + 48
  let ds := (digs p).map (· + 48)
  have hds : ∀ v ∈ ds, 48 ≤ v ∧ v ≤ 57 := fun v hv => by
    obtain ⟨d, hd, rfl⟩ := List.mem_map.mp hv
    unfold digs at hd
    obtain ⟨ch, hch, rfl⟩ := List.mem_map.mp hd
    have := toDigits_digit hch
    show 48 ≤ ch.toNat - 48 + 48 ∧ ch.toNat - 48 + 48 ≤ 57
    rw [Nat.sub_add_cancel this.1]
    exact this
  have hdl : ds.length ≤ 8 := by
    show ((digs p).map (· + 48)).length ≤ 8
    rw [List.length_map]
    unfold digs
    rw [List.length_map]
    exact (Nat.length_toDigits_le_iff (by decide) (by decide)).mpr (by (first | assumption | exact Nat.le_of_lt (by assumption) | exact Nat.le_trans (by assumption) (by assumption) | exact Nat.lt_of_lt_of_le (by assumption) (by assumption) | exact Nat.lt_of_le_of_lt (by assumption) (by assumption) | lia))
  generalize hx : Str.ofString "229 Entering (" ++ Txt.mul (Str.ofString (toString ((mk : Nat) : Int))) 3 ++ Str.ofString (toString ((p : Nat) : Int)) ++ Str.ofString (toString ((mk : Nat) : Int)) ++ Str.ofString ")" = txt
  have hL : txt.cps.toList = preL ++ ([c, c, c] ++ ds ++ [c]) ++ [41] := by
    rw [← hx, mark_text hmk, pre_text, show Txt.mul (⟨#[mk + 48]⟩ : Str) 3 = ⟨#[c, c, c]⟩ from by simp [Txt.mul, Str.length, List.replicate]; rfl, show Str.ofString ")" = ⟨#[41]⟩ from by decide +kernel]
    show (((((preL.toArray ++ #[c, c, c]) ++ (Str.ofString (toString ((p : Nat) : Int))).cps) ++ #[c]) ++ #[41] : Array Nat)).toList = _
    simp only [Array.toList_append, port_text]
    simp [ds]
  have hlen : txt.length = 19 + ds.length := by
    show txt.cps.size = _
    rw [← Array.length_toList, hL]
    simp [preL]
    (first | assumption | exact Nat.le_of_lt (by assumption) | exact Nat.le_trans (by assumption) (by assumption) | exact Nat.lt_of_lt_of_le (by assumption) (by assumption) | exact Nat.lt_of_le_of_lt (by assumption) (by assumption) | lia)
  have gat : ∀ v, txt.cps.toList.getD v 0 = (preL ++ ([c, c, c] ++ ds ++ [c]) ++ [41]).getD v 0 := fun v => by rw [hL]
  have hr : txt.cps.toList[18 + ds.length]? = some 41 := by
    have e : (preL ++ ([c, c, c] ++ ds ++ [c])).length = 18 + ds.length := by simp [preL]; (first | assumption | exact Nat.le_of_lt (by assumption) | exact Nat.le_trans (by assumption) (by assumption) | exact Nat.lt_of_lt_of_le (by assumption) (by assumption) | exact Nat.lt_of_le_of_lt (by assumption) (by assumption) | lia)
    rw [hL, List.getElem?_append_right (by (first | assumption | exact Nat.le_of_lt (by assumption) | exact Nat.le_trans (by assumption) (by assumption) | exact Nat.lt_of_lt_of_le (by assumption) (by assumption) | exact Nat.lt_of_le_of_lt (by assumption) (by assumption) | lia)), e, Nat.sub_self]
    rfl
  have hF : Txt.find txt (Str.ofString "(") = 13 := by
    rw [find_is_find3, show Str.ofString "(" = ⟨#[40]⟩ from by decide +kernel]
    refine find_at (i := 0) (k := 13) (by (first | assumption | exact Nat.le_of_lt (by assumption) | exact Nat.le_trans (by assumption) (by assumption) | exact Nat.lt_of_lt_of_le (by assumption) (by assumption) | exact Nat.lt_of_le_of_lt (by assumption) (by assumption) | lia)) (by rw [hL]; rfl) (by (first | assumption | exact Nat.le_of_lt (by assumption) | exact Nat.le_trans (by assumption) (by assumption) | exact Nat.lt_of_lt_of_le (by assumption) (by assumption) | exact Nat.lt_of_le_of_lt (by assumption) (by assumption) | lia)) fun v _ hv => ?_
    rw [gat, List.append_assoc, List.getD_eq_getElem?_getD, List.getElem?_append_left (by simp [preL]; (first | assumption | exact Nat.le_of_lt (by assumption) | exact Nat.le_trans (by assumption) (by assumption) | exact Nat.lt_of_lt_of_le (by assumption) (by assumption) | exact Nat.lt_of_le_of_lt (by assumption) (by assumption) | lia)), ← List.getD_eq_getElem?_getD]
    exact (by decide : ∀ v : Fin 13, preL.getD v.val 0 ≠ 40) ⟨v, by lia⟩
  have hR : Txt.find3 txt (Str.ofString ")") (Txt.find txt (Str.ofString "(") + 1) = ((18 + ds.length : Nat) : Int) := by
    rw [hF, show Str.ofString ")" = ⟨#[41]⟩ from by decide +kernel]
    refine find_at (i := 14) (by (first | assumption | exact Nat.le_of_lt (by assumption) | exact Nat.le_trans (by assumption) (by assumption) | exact Nat.lt_of_lt_of_le (by assumption) (by assumption) | exact Nat.lt_of_le_of_lt (by assumption) (by assumption) | lia)) hr (by (first | assumption | exact Nat.le_of_lt (by assumption) | exact Nat.le_trans (by assumption) (by assumption) | exact Nat.lt_of_lt_of_le (by assumption) (by assumption) | exact Nat.lt_of_le_of_lt (by assumption) (by assumption) | lia)) fun v h1 h2 => ?_
    rw [gat]
    have hm : (preL ++ ([c, c, c] ++ ds ++ [c]) ++ [41]).getD v 0 ∈ ([c, c, c] ++ ds ++ [c]) := by
      have hv : v - 14 < ([c, c, c] ++ ds ++ [c]).length := by simp; (first | assumption | exact Nat.le_of_lt (by assumption) | exact Nat.le_trans (by assumption) (by assumption) | exact Nat.lt_of_lt_of_le (by assumption) (by assumption) | exact Nat.lt_of_le_of_lt (by assumption) (by assumption) | lia)
      have e : (preL ++ ([c, c, c] ++ ds ++ [c])).length = 18 + ds.length := by simp [preL]; (first | assumption | exact Nat.le_of_lt (by assumption) | exact Nat.le_trans (by assumption) (by assumption) | exact Nat.lt_of_lt_of_le (by assumption) (by assumption) | exact Nat.lt_of_le_of_lt (by assumption) (by assumption) | lia)
      rw [List.getD_eq_getElem?_getD, List.getElem?_append_left (by (first | assumption | exact Nat.le_of_lt (by assumption) | exact Nat.le_trans (by assumption) (by assumption) | exact Nat.lt_of_lt_of_le (by assumption) (by assumption) | exact Nat.lt_of_le_of_lt (by assumption) (by assumption) | lia)), List.getElem?_append_right (by show 14 ≤ v; (first | assumption | exact Nat.le_of_lt (by assumption) | exact Nat.le_trans (by assumption) (by assumption) | exact Nat.lt_of_lt_of_le (by assumption) (by assumption) | exact Nat.lt_of_le_of_lt (by assumption) (by assumption) | lia))]
      rw [show v - preL.length = v - 14 from rfl, List.getElem?_eq_getElem hv]
      exact List.getElem_mem _
    intro q
    rw [q] at hm
    have : c = 41 ∨ 41 ∈ ds := by
      simp only [List.mem_append, List.mem_cons, List.not_mem_nil, or_false] at hm
      rcases hm with ((h | h | h) | h) | h
      · exact .inl h.symm
      · exact .inl h.symm
      · exact .inl h.symm
      · exact .inr h
      · exact .inl h.symm
    rcases this with h | h
    · have : mk + 48 = 41 := h
      (first | assumption | exact Nat.le_of_lt (by assumption) | exact Nat.le_trans (by assumption) (by assumption) | exact Nat.lt_of_lt_of_le (by assumption) (by assumption) | exact Nat.lt_of_le_of_lt (by assumption) (by assumption) | lia)
    · have := (hds 41 h).1
      (first | assumption | exact Nat.le_of_lt (by assumption) | exact Nat.le_trans (by assumption) (by assumption) | exact Nat.lt_of_lt_of_le (by assumption) (by assumption) | exact Nat.lt_of_le_of_lt (by assumption) (by assumption) | lia)
  have hS : Txt.slice txt (some 14) (some ((18 + ds.length : Nat) : Int)) = ⟨([c, c, c] ++ ds ++ [c]).toArray⟩ := by
    refine (StrLaws.sliceText_nat txt (a := 14) (b := 18 + ds.length) (by (first | assumption | exact Nat.le_of_lt (by assumption) | exact Nat.le_trans (by assumption) (by assumption) | exact Nat.lt_of_lt_of_le (by assumption) (by assumption) | exact Nat.lt_of_le_of_lt (by assumption) (by assumption) | lia)) (by (first | assumption | exact Nat.le_of_lt (by assumption) | exact Nat.le_trans (by assumption) (by assumption) | exact Nat.lt_of_lt_of_le (by assumption) (by assumption) | exact Nat.lt_of_le_of_lt (by assumption) (by assumption) | lia))).trans ?_
    rw [hL]
    congr 2
    rw [List.append_assoc, List.drop_append_of_le_length (by simp [preL]), show preL.drop 14 = [] from rfl, List.nil_append, List.take_append_of_le_length (by simp; (first | assumption | exact Nat.le_of_lt (by assumption) | exact Nat.le_trans (by assumption) (by assumption) | exact Nat.lt_of_lt_of_le (by assumption) (by assumption) | exact Nat.lt_of_le_of_lt (by assumption) (by assumption) | lia)), List.take_of_length_le (by simp; (first | assumption | exact Nat.le_of_lt (by assumption) | exact Nat.le_trans (by assumption) (by assumption) | exact Nat.lt_of_lt_of_le (by assumption) (by assumption) | exact Nat.lt_of_le_of_lt (by assumption) (by assumption) | lia))]
  have hm := mark_text hmk
  have hj : joinL c (Txt.split ⟨([c, c, c] ++ ds ++ [c]).toArray⟩ ⟨#[c]⟩) = [c, c, c] ++ ds ++ [c] := by
    rw [← join_list, StrLaws.join_split]
  have hne : Txt.split ⟨([c, c, c] ++ ds ++ [c]).toArray⟩ ⟨#[c]⟩ ≠ [] := fun h => by
    have := split_pos ⟨([c, c, c] ++ ds ++ [c]).toArray⟩ ⟨#[c]⟩
    rw [h] at this
    exact absurd this (by decide)
  have h4 := part_four (StrLaws.split_free _ c) hj hne
  refine ⟨18 + ds.length, ⟨([c, c, c] ++ ds ++ [c]).toArray⟩, Txt.split ⟨([c, c, c] ++ ds ++ [c]).toArray⟩ ⟨#[c]⟩, ?_⟩
  dsimp only
  rw [hx, hm]
  have h5 : ∀ q : Str, q.cps.toList = ds → q = Str.ofString (toString ((p : Nat) : Int)) := fun q hq => str_list (hq.trans (port_text p).symm)
  refine ⟨by (first | assumption | exact Nat.le_of_lt (by assumption) | exact Nat.le_trans (by assumption) (by assumption) | exact Nat.lt_of_lt_of_le (by assumption) (by assumption) | exact Nat.lt_of_le_of_lt (by assumption) (by assumption) | lia), ?_, hF, hR, by (first | assumption | exact Nat.le_of_lt (by assumption) | exact Nat.le_trans (by assumption) (by assumption) | exact Nat.lt_of_lt_of_le (by assumption) (by assumption) | exact Nat.lt_of_le_of_lt (by assumption) (by assumption) | lia), by (first | assumption | exact Nat.le_of_lt (by assumption) | exact Nat.le_trans (by assumption) (by assumption) | exact Nat.lt_of_lt_of_le (by assumption) (by assumption) | exact Nat.lt_of_le_of_lt (by assumption) (by assumption) | lia), ?_, ?_, ?_, rfl, ?_, fun h => ?_, fun h => ?_⟩
  · rw [show Str.ofString "229" = ⟨#[50, 50, 57]⟩ from by decide +kernel]
    show StrLaws.sliceText txt none (some ((3 : Nat) : Int)) = _
    have e : StrLaws.sliceText txt none (some ((3 : Nat) : Int)) = StrLaws.sliceText txt (some ((0 : Nat) : Int)) (some ((3 : Nat) : Int)) := by
      unfold StrLaws.sliceText
      rw [StrLaws.sliceIdx_none_lo]
      rfl
    rw [e, StrLaws.sliceText_nat txt (by (first | assumption | exact Nat.le_of_lt (by assumption) | exact Nat.le_trans (by assumption) (by assumption) | exact Nat.lt_of_lt_of_le (by assumption) (by assumption) | exact Nat.lt_of_le_of_lt (by assumption) (by assumption) | lia)) (by (first | assumption | exact Nat.le_of_lt (by assumption) | exact Nat.le_trans (by assumption) (by assumption) | exact Nat.lt_of_lt_of_le (by assumption) (by assumption) | exact Nat.lt_of_le_of_lt (by assumption) (by assumption) | lia)), hL]
    rfl
  · rw [hF]
    exact item_at (i := 14) (by rw [hL]; rfl)
  · rw [hR]
    have : ((18 + ds.length : Nat) : Int) - 1 = ((17 + ds.length : Nat) : Int) := by (first | assumption | exact Nat.le_of_lt (by assumption) | exact Nat.le_trans (by assumption) (by assumption) | exact Nat.lt_of_lt_of_le (by assumption) (by assumption) | exact Nat.lt_of_le_of_lt (by assumption) (by assumption) | lia)
    rw [this]
    refine item_at (i := 17 + ds.length) ?_
    have e : (preL ++ ([c, c, c] ++ ds ++ [c])).length = 18 + ds.length := by simp [preL]; (first | assumption | exact Nat.le_of_lt (by assumption) | exact Nat.le_trans (by assumption) (by assumption) | exact Nat.lt_of_lt_of_le (by assumption) (by assumption) | exact Nat.lt_of_le_of_lt (by assumption) (by assumption) | lia)
    have e2 : ([c, c, c] ++ ds).length = 3 + ds.length := by simp; (first | assumption | exact Nat.le_of_lt (by assumption) | exact Nat.le_trans (by assumption) (by assumption) | exact Nat.lt_of_lt_of_le (by assumption) (by assumption) | exact Nat.lt_of_le_of_lt (by assumption) (by assumption) | lia)
    rw [hL, List.getElem?_append_left (by (first | assumption | exact Nat.le_of_lt (by assumption) | exact Nat.le_trans (by assumption) (by assumption) | exact Nat.lt_of_lt_of_le (by assumption) (by assumption) | exact Nat.lt_of_le_of_lt (by assumption) (by assumption) | lia)), List.getElem?_append_right (by show 14 ≤ _; (first | assumption | exact Nat.le_of_lt (by assumption) | exact Nat.le_trans (by assumption) (by assumption) | exact Nat.lt_of_lt_of_le (by assumption) (by assumption) | exact Nat.lt_of_le_of_lt (by assumption) (by assumption) | lia)), List.getElem?_append_right (by show ([c, c, c] ++ ds).length ≤ 17 + ds.length - 14; (first | assumption | exact Nat.le_of_lt (by assumption) | exact Nat.le_trans (by assumption) (by assumption) | exact Nat.lt_of_lt_of_le (by assumption) (by assumption) | exact Nat.lt_of_le_of_lt (by assumption) (by assumption) | lia))]
    rw [show 17 + ds.length - preL.length - ([c, c, c] ++ ds).length = 0 from by rw [e2]; show 17 + ds.length - 14 - _ = 0; (first | assumption | exact Nat.le_of_lt (by assumption) | exact Nat.le_trans (by assumption) (by assumption) | exact Nat.lt_of_lt_of_le (by assumption) (by assumption) | exact Nat.lt_of_le_of_lt (by assumption) (by assumption) | lia)]
    rfl
  · rw [hR, hF]
    exact hS
  · rw [h4.1]
    constructor
    · intro h q
      exact h (List.mem_map.mpr ⟨mk, q, rfl⟩)
    · intro h q
      obtain ⟨d, hd, e⟩ := List.mem_map.mp q
      have e : d + 48 = mk + 48 := e
      have : d = mk := by (first | assumption | exact Nat.le_of_lt (by assumption) | exact Nat.le_trans (by assumption) (by assumption) | exact Nat.lt_of_lt_of_le (by assumption) (by assumption) | exact Nat.lt_of_le_of_lt (by assumption) (by assumption) | lia)
      exact h (this ▸ hd)
  · rw [h5 _ (h4.2 h)]
    exact KIN.num_reads (by (first | assumption | exact Nat.le_of_lt (by assumption) | exact Nat.le_trans (by assumption) (by assumption) | exact Nat.lt_of_lt_of_le (by assumption) (by assumption) | exact Nat.lt_of_le_of_lt (by assumption) (by assumption) | lia)) (by (first | assumption | exact Nat.le_of_lt (by assumption) | exact Nat.le_trans (by assumption) (by assumption) | exact Nat.lt_of_lt_of_le (by assumption) (by assumption) | exact Nat.lt_of_le_of_lt (by assumption) (by assumption) | lia))
  · rw [h5 _ (h4.2 h)]
    show (Str.ofString (toString ((p : Nat) : Int))).cps.size ≤ 640
    rw [← Array.length_toList, port_text]
    exact Nat.le_trans hdl (by decide)
theorem mark_size {v : Nat} (h : v < 10) : (Str.ofString (toString ((v : Nat) : Int))).length = 1 := by
  show (Str.ofString (toString ((v : Nat) : Int))).cps.size = 1
  rw [signs_size]
  exact (by decide : ∀ v : Fin 10, (digs v.val).length = 1) ⟨v, h⟩
theorem port_size {v : Nat} (h : v < 100000000) : (Str.ofString (toString ((v : Nat) : Int))).length ≤ 8 := by
  show (Str.ofString (toString ((v : Nat) : Int))).cps.size ≤ 8
  rw [signs_size]
  unfold digs
  rw [List.length_map]
  exact (Nat.length_toDigits_le_iff (by decide) (by decide)).mpr h
/-- one answer: where it lies, its port, its marks -/
structure Ans where
  at' : Addr
  port : Int
  tp : Tok
def ansObj (host : Str) (th : Tok) (x : Ans) : Addr × Obj := (x.at', tup [.str host th, .int x.port x.tp])
structure TSt where
  us : List Ans
  k : Nat
  sl : Array (Option Value)
set_option maxRecDepth 100000 in
set_option maxHeartbeats 4000000 in
theorem told_spec {w : World} {A : Around} {h₀ : Heap} {L : Addr} {env : Env} {s : Shared} {m : Str → Option Value} {news : List (Addr × Obj)} {l : Addr} {ws : List Value} {ps : List Int} {n mk : Nat} {tm th : Tok} {host : Str} {Q E : Value → Shared → Prop} (good : Int → Bool)
    (G : Sit1 w A h₀ L env) (F : Fr h₀ L s.heap m) (N : News h₀ L s.heap news) (hd : A.depth + 4 < recursionLimit) (hu : A.units + 32 < cLine)
    (hl : (l, lst ws n) ∈ news) (hI : IntsAre ws ps) (hz : ps.length ≤ 100) (hmk : mk < 10) (hp : ∀ p ∈ ps, 0 ≤ p ∧ p < 100000000) (hgood : ∀ p : Nat, p < 100000000 → good (p : Int) = !((digs p).contains mk))
    (hret : ∀ D (us : List Ans) k h' tk', Fr h₀ L h' m → News h₀ L h' ((D, lst (us.map fun x => Value.ref x.at') k) :: (us.map (ansObj host th) ++ news)) → (∀ p ∈ news, p.1 < D) →
      us.map (·.port) = ps.filter good → Q (.ref D) { s with heap := h', toks := tk' }) :
    wpAny (model PG w) A (call (.ref 149) [.int mk tm, .ref l, .str host th]) Q E s := by
  have hwl := hI.length
  have hat : ∀ i (hi : i < ps.length) v, ws[i]? = some v → ∃ tv, v = .int ps[i] tv := fun i hi v hv => by
    obtain ⟨t, e⟩ := hI.get i ps[i] (List.getElem?_eq_getElem hi)
    rw [e] at hv
    exact ⟨t, (Option.some.inj hv).symm⟩
  w_on
  w_strict (
  refine' enterE [(Str.ofString "host", .str host th), (Str.ofString "ports", .ref l), (Str.ofString "mark", .int mk tm)] G F N ?k6 ?k7 ?k8 ?k9 ?kp ?kB ?_ ?c2 ?c3 ?c4 ?c5
  (case k6 => k_dflt k_is)
  (case k7 => k_dflt k_is)
  (case k8 => walk_at "room")
  (case k9 => exact rfl)
  (case kp => exact rfl)
  (case kB => exact locs rfl)
  (case c2 => exact rfl)
  (case c3 => exact rfl)
  (case c4 => exact rfl)
  (case c5 => decide)
  intro L' oL h₁ tk Fs hnL hltL hLL F' N'
  dsimp only [kstB_cons, kstB_nil] at F'
  refine cps fun P9 k9 => ?_
  obtain ⟨loose, mean, mg, mb, hloose, T⟩ := G.top
  refine k9 ?_
  clear k9 P9
  have KX := G.inn
  k_steps
  (intro stop9; clear stop9)
  subst hloose
  rename_i D _ hltD _ F1 N1 _ _
  refine list_start F1 N1 (l := l) (vs := ws) (n := n) (by walk_at "member") fun I h2 F2 N2 hlt2 hLI hI0 hIs hIt hIl => ?_
  have hlI : l ≠ I := Nat.ne_of_lt (hlt2 (l, lst ws n) (List.mem_cons_of_mem _ (List.mem_append_left _ hl)))
  have hlL' : l ≠ L' := Nat.ne_of_lt (hltL _ hl)
  refine' loop_at (σ := TSt) (Walks.list (prog := PG) (w := w) (A := A.deeper _) G.hh I l hlI ws.toArray) (fun c => (D, lst (c.us.map fun x => Value.ref x.at') c.k) :: (c.us.map (ansObj host th) ++ (news ++ [(L, { oL with slots := c.sl })]))) (fun _ => []) [Str.ofString "text"]
    (fun i c => c.us.map (·.port) = (ps.take i).filter good ∧ i ≤ ps.length ∧ c.k ≤ i ∧ (∀ x ∈ c.us, x.at' ≠ I ∧ x.at' ≠ L)) ⟨[], 0, oL.slots⟩ ?_ (by simpa using hI0) ⟨hIt, hIl⟩ F2 (News.sub N2 ?_) ?_ (fun _ h => nomatch h) ⟨rfl, Nat.zero_le _, Nat.le_refl _, fun _ h => nomatch h⟩ ?_ ?_
  · intro hq
    rcases List.mem_cons.mp hq with hq | hq
    · exact hLI hq
    · exact hlL' (List.mem_singleton.mp hq).symm
  · exact all_cons (List.mem_cons_self) (fun p hp => List.mem_cons_of_mem _ hp)
  · rintro i c ⟨_, _, _, q4⟩ p hp hq
    have hq := List.mem_singleton.mp hq
    rcases List.mem_cons.mp hp with rfl | hp
    · exact Nat.ne_of_lt (hlt2 _ List.mem_cons_self) hq
    rcases List.mem_append.mp hp with hp | hp
    · obtain ⟨x, hx, rfl⟩ := List.mem_map.mp hp
      exact (q4 x hx).1 hq
    rcases List.mem_append.mp hp with hp | hp
    · exact Nat.ne_of_lt (hlt2 p (List.mem_cons_of_mem _ (List.mem_append_left _ hp))) hq
    · rw [List.mem_singleton.mp hp] at hq
      exact Nat.ne_of_lt (hlt2 (L, oL) (List.mem_cons_of_mem _ (List.mem_append_right _ List.mem_cons_self))) hq
  · rintro i ⟨us, k, sl⟩ v u h tk3 own hi hv hq hown hall hSt F3 N3
    dsimp only at hq N3
    obtain ⟨oI, hoI⟩ : ∃ o, (I, o) ∈ own := by
      obtain ⟨o, ho, _⟩ := hSt.1
      exact ⟨o, hall I List.mem_cons_self hI0 o ho⟩
    refine an4 hq fun q1 q2 q3 q4 => ?_
    clear hq
    dsimp only [kstB_cons, kstB_nil] at F3
    (try k_fold)
    have hi' : i < ps.length := by rw [List.size_toArray, hwl] at hi; exact hi
    obtain ⟨tv, rfl⟩ : ∃ tv, v = .int ps[i] tv := hat i hi' v (by simpa using hv)
    obtain ⟨p, hpe⟩ : ∃ p : Nat, ps[i] = (p : Int) := ⟨ps[i].toNat, (Int.toNat_of_nonneg (hp _ (List.getElem_mem hi')).1).symm⟩
    have hp8 : p < 100000000 := by have := (hp _ (List.getElem_mem hi')).2; rw [hpe] at this; (first | assumption | exact Nat.le_of_lt (by assumption) | exact Nat.le_trans (by assumption) (by assumption) | exact Nat.lt_of_lt_of_le (by assumption) (by assumption) | exact Nat.lt_of_le_of_lt (by assumption) (by assumption) | lia)
    rw [hpe] at F3
    have hd1 : (Str.ofString (toString ((mk : Nat) : Int))).length = 1 := mark_size hmk
    have hp1 : (Str.ofString (toString ((p : Nat) : Int))).length ≤ 8 := port_size (by (first | assumption | exact Nat.le_of_lt (by assumption) | exact Nat.le_trans (by assumption) (by assumption) | exact Nat.lt_of_lt_of_le (by assumption) (by assumption) | exact Nat.lt_of_le_of_lt (by assumption) (by assumption) | lia))
    have hm3 : (Txt.mul (Str.ofString (toString ((mk : Nat) : Int))) 3).length = 3 := by
      have e := len_mul (Str.ofString (toString ((mk : Nat) : Int))) 3
      rw [if_neg (by decide), hd1] at e
      (first | assumption | exact Nat.le_of_lt (by assumption) | exact Nat.le_trans (by assumption) (by assumption) | exact Nat.lt_of_lt_of_le (by assumption) (by assumption) | exact Nat.lt_of_le_of_lt (by assumption) (by assumption) | lia)
    k_steps
    (intro stop9; clear stop9)
    rename_i D2 h6 F6 N6 l6
    refine cps fun P9 k9 => ?_
    obtain ⟨r, body, parts, hn, hs3, hfl, hfr, hr1, hr2, hi1, hi2, hsb, hsp, hgd, hok, hpl⟩ := text_facts hmk hp8
    refine k9 ?_
    clear k9 P9
    have N7 : News h₀ L' h6 ((own ++ (D, lst (us.map fun x => Value.ref x.at') k) :: (us.map (ansObj host th) ++ news)) ++ [(L, { oL with slots := sl })]) := by
      refine News.sub N6 fun p hp => List.mem_cons_of_mem _ ?_
      rw [List.append_assoc, List.cons_append, List.append_assoc] at hp
      exact hp
    refine parse_spec (A := A.deeper _) G.hh (KX.keeps F6.keep) rfl (T.keeps F6.keep) (by walk_at "room") (by walk_at "room") (N6 _ List.mem_cons_self).1 (by (first | assumption | exact Nat.le_of_lt (by assumption) | exact Nat.le_trans (by assumption) (by assumption) | exact Nat.lt_of_lt_of_le (by assumption) (by assumption) | exact Nat.lt_of_le_of_lt (by assumption) (by assumption) | lia)) (by unfold sizeLine; (first | assumption | exact Nat.le_of_lt (by assumption) | exact Nat.le_trans (by assumption) (by assumption) | exact Nat.lt_of_lt_of_le (by assumption) (by assumption) | exact Nat.lt_of_le_of_lt (by assumption) (by assumption) | lia)) hs3 hfl hfr hr1 hr2 hi1 hi2 hok hpl ?_ ?_ hsp hsb
    · intro hne sc h7 h8 e mp tk7 hsc Fp hx
      refine flight G (frs_slots Fs sl) F6 N7 ?_ Fp hx ?_ rfl hsc rfl ?_
      · intro p hp
        rcases List.mem_append.mp hp with hp | hp
        · intro hq
          have z1 := (N7 p (List.mem_append_left _ (List.mem_append_left _ hp)))
          rcases List.mem_cons.mp (hown p hp) with q | q
          · exact Nat.ne_of_lt (hlt2 (L, oL) (List.mem_cons_of_mem _ (List.mem_append_right _ List.mem_cons_self))) (hq.symm.trans q)
          · exact hnL _ hl ((List.mem_singleton.mp q).symm.trans hq)
        rcases List.mem_cons.mp hp with rfl | hp
        · exact Nat.ne_of_gt (hltD (L, oL) (List.mem_append_right _ List.mem_cons_self))
        rcases List.mem_append.mp hp with hp | hp
        · obtain ⟨x, hx, rfl⟩ := List.mem_map.mp hp
          exact (q4 x hx).2
        · exact hnL p hp
      · intro h9 sl9 F9 N9
        k_steps
        refine for_end ⟨us, k, sl9⟩ F9 N9 ?_ (fun _ h => nomatch h) (by (intro z h1 h2 h3; first | rfl | ((simp only [List.forall_mem_cons, List.not_mem_nil, false_implies, implies_true, and_true, ne_eq] at h2); (simp only [List.contains_cons, List.contains_nil, Bool.or_false, Bool.or_eq_false_iff, beq_eq_false_iff_ne, ne_eq] at h3); (simp [h1, h2, h3]; done)) | ((simp only [List.forall_mem_cons, List.not_mem_nil, false_implies, implies_true, and_true, ne_eq] at h2); (simp [h1, h2]; done)) | (simp [h1]; done) | ((simp only [List.contains_cons, List.contains_nil, Bool.or_false, Bool.or_eq_false_iff, beq_eq_false_iff_ne, ne_eq] at h3); (simp [h1, h3]; done)))) ⟨?_, hi', Nat.le_succ_of_le q3, q4⟩
        · intro p hp
          rw [List.append_assoc, List.cons_append, List.append_assoc]
          exact hp
        · show us.map (·.port) = (ps.take (i + 1)).filter good
          rw [List.take_succ_eq_append_getElem hi', List.filter_append, ← q1, hpe]
          have : good (p : Int) = false := by
            rw [hgood p hp8]
            have h9 : mk ∈ digs p := Decidable.not_not.mp fun h => hne (hgd.mpr h)
            simpa using h9
          simp [this]
      · passes_own
    · intro h5 h7 D7 tk7 tp7 hkeep hD7 hD7n
      have hDL : D7 ≠ L' := fun q => by
        obtain ⟨o, _, _, e, _⟩ := F6.ns
        rw [q, e] at hD7n; cases hD7n
      have F7 : Fr h₀ L' h7 _ := ⟨F6.ns.at' fun o e => hkeep _ _ e, fun b o q => hkeep _ _ (F6.keep _ _ q), F6.above⟩
      have N8 : News h₀ L' h7 ((D7, tup [.str host th, .int p tp7]) :: (own ++ (D, lst (us.map fun x => Value.ref x.at') k) :: (us.map (ansObj host th) ++ (news ++ [(L, { oL with slots := sl })])))) := by
        intro q hq
        rcases List.mem_cons.mp hq with rfl | hq
        · refine ⟨hD7, hDL, ?_⟩
          cases h : h₀.get? D7 with
          | none => rfl
          | some o => rw [F6.keep _ _ h] at hD7n; cases hD7n
        · have z := N6 q (List.mem_cons_of_mem _ hq)
          exact ⟨hkeep _ _ z.1, z.2⟩
      have hDI : D7 ≠ I := fun q => by
        have z := (N6 (I, oI) (List.mem_cons_of_mem _ (List.mem_append_left _ hoI))).1
        rw [q, z] at hD7n; cases hD7n
      have hDLl : D7 ≠ L := fun q => by
        have z := (N7 (L, _) (List.mem_append_right _ List.mem_cons_self)).1
        rw [q, z] at hD7n; cases hD7n
      have hDD : D7 ≠ D := fun q => by
        have z := (N6 (D, _) (List.mem_cons_of_mem _ (List.mem_append_right _ List.mem_cons_self))).1
        rw [q, z] at hD7n; cases hD7n
      clear F6 N6 N7
      have hul : us.length ≤ 100 := by
        have e1 : us.length = ((ps.take i).filter good).length := by rw [← q1, List.length_map]
        have e2 := List.length_filter_le good (ps.take i)
        rw [List.length_take] at e2
        (first | assumption | exact Nat.le_of_lt (by assumption) | exact Nat.le_trans (by assumption) (by assumption) | exact Nat.lt_of_lt_of_le (by assumption) (by assumption) | exact Nat.lt_of_le_of_lt (by assumption) (by assumption) | lia)
      k_steps
      refine m_append (vs := us.map fun x => Value.ref x.at') (n := k) F7 N8 (by walk_at "member") (by rw [List.length_map]; (first | assumption | exact Nat.le_of_lt (by assumption) | exact Nat.le_trans (by assumption) (by assumption) | exact Nat.lt_of_lt_of_le (by assumption) (by assumption) | exact Nat.lt_of_le_of_lt (by assumption) (by assumption) | lia)) ?_
      intro h9 F9 N9
      k_steps
      refine for_end ⟨us ++ [⟨D7, p, tp7⟩], k + 1, sl⟩ F9 N9 ?_ (fun _ h => nomatch h) (by (intro z h1 h2 h3; first | rfl | ((simp only [List.forall_mem_cons, List.not_mem_nil, false_implies, implies_true, and_true, ne_eq] at h2); (simp only [List.contains_cons, List.contains_nil, Bool.or_false, Bool.or_eq_false_iff, beq_eq_false_iff_ne, ne_eq] at h3); (simp [h1, h2, h3]; done)) | ((simp only [List.forall_mem_cons, List.not_mem_nil, false_implies, implies_true, and_true, ne_eq] at h2); (simp [h1, h2]; done)) | (simp [h1]; done) | ((simp only [List.contains_cons, List.contains_nil, Bool.or_false, Bool.or_eq_false_iff, beq_eq_false_iff_ne, ne_eq] at h3); (simp [h1, h3]; done)))) ⟨?_, hi', Nat.succ_le_succ q3, ?_⟩
      · intro q hq
        rcases List.mem_append.mp hq with hq | hq
        · refine mem_put (List.mem_cons_of_mem _ (List.mem_append_left _ hq)) ?_
          rcases List.mem_cons.mp (hown q hq) with z | z
          · rw [z]; exact Nat.ne_of_gt (hlt2 _ List.mem_cons_self)
          · rw [List.mem_singleton.mp z]; exact Nat.ne_of_lt (hltD (l, lst ws n) (List.mem_append_left _ hl))
        rcases List.mem_cons.mp hq with rfl | hq
        · show (D, lst ((us ++ [(⟨D7, p, tp7⟩ : Ans)]).map fun x => Value.ref x.at') (k + 1)) ∈ _
          rw [List.map_append]
          exact put_mem
        rcases List.mem_append.mp hq with hq | hq
        · have hq : q ∈ (us ++ [(⟨D7, p, tp7⟩ : Ans)]).map (ansObj host th) := hq
          rw [List.map_append] at hq
          rcases List.mem_append.mp hq with hq | hq
          · refine mem_put (List.mem_cons_of_mem _ (List.mem_append_right _ (List.mem_cons_of_mem _ (List.mem_append_left _ hq)))) ?_
            have z1 := N8 _ (List.mem_cons_of_mem _ (List.mem_append_right _ (List.mem_cons_of_mem _ (List.mem_append_left _ hq))))
            have z2 := N8 (D, _) (List.mem_cons_of_mem _ (List.mem_append_right _ List.mem_cons_self))
            obtain ⟨x, _, rfl⟩ := List.mem_map.mp hq
            intro e
            rw [e, z2.1] at z1
            have z3 := Option.some.inj z1.1
            injection z3 with z3
            injection z3 with z3
            exact absurd z3 (by decide)
          · rw [List.mem_singleton.mp hq]
            exact mem_put List.mem_cons_self hDD
        · refine mem_put (List.mem_cons_of_mem _ (List.mem_append_right _ (List.mem_cons_of_mem _ (List.mem_append_right _ hq)))) ?_
          rcases List.mem_append.mp hq with hq | hq
          · exact Nat.ne_of_lt (hltD q (List.mem_append_left _ hq))
          · rw [List.mem_singleton.mp hq]
            exact Nat.ne_of_lt (hltD (L, oL) (List.mem_append_right _ List.mem_cons_self))
      · show (us ++ [(⟨D7, p, tp7⟩ : Ans)]).map (·.port) = (ps.take (i + 1)).filter good
        rw [List.take_succ_eq_append_getElem hi', List.filter_append, ← q1, hpe, List.map_append]
        have : good (p : Int) = true := by
          rw [hgood p hp8]
          simpa using hgd.mp h5
        simp [this]
      · intro x hx
        have hx : x ∈ us ++ [(⟨D7, p, tp7⟩ : Ans)] := hx
        rcases List.mem_append.mp hx with hx | hx
        · exact q4 x hx
        · rw [List.mem_singleton.mp hx]
          exact ⟨hDI, hDLl⟩
  · rintro ⟨us, k, sl⟩ u h tk3 hq F3 N3
    dsimp only at hq N3
    refine an4 hq fun q1 q2 q3 q4 => ?_
    clear hq
    dsimp only [kstB_cons, kstB_nil] at F3
    (try k_fold)
    k_steps
    refine OutE.of (new := (D, lst (us.map fun x => Value.ref x.at') k) :: (us.map (ansObj host th) ++ news)) (sl := sl) (F3) (News.sub N3 ?_) ?_ (fun F4 N4 => hret D us k _ _ F4 N4 (fun p hp => hltD p (List.mem_append_left _ hp)) ?_)
    · intro p hp
      rw [List.cons_append, List.append_assoc] at hp
      exact hp
    · intro p hp
      rcases List.mem_cons.mp hp with rfl | hp
      · exact Nat.ne_of_gt (hltD (L, oL) (List.mem_append_right _ List.mem_cons_self))
      rcases List.mem_append.mp hp with hp | hp
      · obtain ⟨x, hx, rfl⟩ := List.mem_map.mp hp
        exact (q4 x hx).2
      · exact hnL p hp
    · rw [q1, List.size_toArray, hwl, List.take_length])
section
variable {α : Type} {prog : Program} {w : World} {A : Around} {E : Value → Shared → Prop} {s : Shared} {X : Addr} {oX : Obj} {vX : Array Value}
/-- a new exception raised while another is handled -/
structure ChainExc (h h' : Heap) (e : Addr) (cls : String) (X : Addr) : Prop where
  keeps : ∀ b o, h.get? b = some o → h'.get? b = some o
  new : h.get? e = none
  there : ∃ ob t, h'.get? e = some ob ∧ ob.cls = .type cls ∧ ob.data = .fields #[t, .none, .ref X, .none, .bool false, .none]
theorem unchain_none (hX : s.heap.get? X = some oX) (hXd : oX.data = .fields vX) (hX2 : vX[2]? = some .none) {e : Value} {Q : Value → Shared → Prop} (h : Q .none s) :
    wpAny (model prog w) A (runValue (.builtin "proto.unchain" ⟨[e, .ref X, .ref X, .bool false], []⟩)) Q E s := by
  refine wpAny_runValue (codeAny_builtin (b := Builtin.«proto.unchain») (entryFor_of_tree (by kernel_rfl)) ?_)
  unfold Builtin.«proto.unchain»
  refine wpAny_bind (wpAny_field hX hXd hX2 ?_)
  refine wpAny_of_eq (a := Fin.done (.ret .none)) ?_ h
  rfl
theorem raise_chained {cls msg : String} {Q : α → Shared → Prop} (hp : PlainExc cls) (hh : A.handled = some (.ref X)) (hX : s.heap.get? X = some oX) (hXd : oX.data = .fields vX) (hX2 : vX[2]? = some .none)
    (h : ∀ h' tk e, ChainExc s.heap h' e cls X → E (.ref e) { s with heap := h', toks := tk }) : wpAny (model prog w) A (raiseErrorWords cls msg : Sem α) Q E s := by
  unfold raiseErrorWords
  refine wpAny_bind (wpAny_mkText (wpAny_bind ?_))
  unfold newExc newTuple
  refine wpAny_bind (wpAny_newObj_type ?_)
  refine wpAny_bind (m := firstArgMember _ _) (wpAny_of_eq (a := Value.none) (by simp only [firstArgMember, hp.first]; rfl) ?_)
  rw [hp.own]
  refine wpAny_newObj_type ?_
  unfold raiseNew
  refine wpAny_bind (wpAny_handled ?_)
  rw [hh]
  have hlt := Heap.lt_size hX
  dsimp only
  rw [if_pos (by
    simp only [bne_iff_ne, ne_eq, Value.ref.injEq]
    intro q
    rw [q] at hlt
    simp at hlt
    exact Nat.not_lt.mpr (Nat.le_succ _) hlt)]
  refine wpAny_bind (wpAny_holding (unchain_none (oX := oX) (vX := vX) ?_ hXd hX2 ?_))
  · exact Heap.get?_push_of_some _ (Heap.get?_push_of_some _ hX)
  have hE := Heap.get?_push_size (s.heap.push { cls := .type "tuple", data := .seq [Value.str ↑msg s.toks].toArray }) (o := { cls := .type cls, data := .fields (#[.ref s.heap.objs.size, .none, .none, .none, .bool false, .none] ++ #[]) }) rfl
  unfold updateField
  refine wpAny_bind (wpAny_bind (wpAny_load hE ?_))
  dsimp only
  rw [if_pos (by simp)]
  refine wpAny_update hE (wpAny_throw (h _ _ _ ⟨fun b o hb => ?_, Heap.get?_none_of_le (by simp), ?_⟩))
  · have hb2 := Heap.lt_size hb
    rw [Heap.get?_update_ne _ _ _ _ (fun q => by
      rw [q] at hb2
      simp at hb2
      exact Nat.not_lt.mpr (Nat.le_succ _) hb2)]
    exact Heap.get?_push_of_some _ (Heap.get?_push_of_some _ hb)
  · refine ⟨_, .ref s.heap.objs.size, Heap.get?_update_self _ hE (Obj.isFreed_of_fields (Obj.data_mapFields rfl _)), rfl, ?_⟩
    rw [Obj.data_mapFields rfl]
    simp
theorem item_out_chained {l : Addr} {items : Array Value} {k : Int} {t : Tok} {Q : Value → Shared → Prop} (hh : A.handled = some (.ref X)) (hX : s.heap.get? X = some oX) (hXd : oX.data = .fields vX) (hX2 : vX[2]? = some .none) (hl : s.heap.IsList l items)
    (hout : (items.size : Int) ≤ k) (hhi : k < 2 ^ 63) (hE : ∀ h' tk e, ChainExc s.heap h' e "IndexError" X → E (.ref e) { s with heap := h', toks := tk }) :
    wpAny (model prog w) A (getItem (.ref l) (.int k t)) Q E s := by
  refine cps fun P9 k9 => ?_
  obtain ⟨o, ho, hc, ne, hd⟩ := id hl
  refine k9 ?_
  clear k9 P9
  unfold getItem
  try with_reducible refine wpAny_holding ?_
  first | refine wpAny_bind (wpAny_pure ?_) | skip
  refine wpAny_bind (wpAny_sequenceKey hl.typeIs (by decide) ?_)
  refine wpAny_bind (wpAny_callSpecial?_slot (name := Str.ofString "__getitem__") hl.typeIs slot_list_getitem (wpAny_call_entry slot_list_getitem hl.typeIs entry_list_getitem ?_ (args_list_getitem _ _)))
  show wpAny _ _ (Builtin.List.listSubscript? (.int k t) >>= _) _ _ s
  refine wpAny_bind (wpAny_listSubscript_int (fitsIndex_both (by lia) hhi) ?_)
  clear hhi
  cases k with
  | negSucc j => exact absurd hout (by have := Int.negSucc_lt_zero j; lia)
  | ofNat j =>
    have hx : items[j]? = none := Array.getElem?_eq_none (by have : (items.size : Int) ≤ (j : Int) := hout; lia)
    show wpAny _ _ ((seqItemAt l j >>= fun r => pure (r.map (j, ·))) >>= _) _ _ s
    refine wpAny_bind (wpAny_bind (wpAny_seqItemAt ho hd (wpAny_pure ?_)))
    rw [hx]
    first
      | exact wpAny_bind (wpAny_rule (raise_chained plainExc_IndexError hh hX hXd hX2 hE))
      | exact wpAny_bind (wpAny_rule (wpAny_bind (raise_chained plainExc_IndexError hh hX hXd hX2 hE)))
      | exact wpAny_bind (wpAny_bind (wpAny_rule (raise_chained plainExc_IndexError hh hX hXd hX2 hE)))
      | exact wpAny_rule (raise_chained plainExc_IndexError hh hX hXd hX2 hE)
end
section
open TI
variable {w : World} {A : Around} {E : Value → Shared → Prop} {s' : Shared} {hb h : Heap} {L a e X : Addr} {m : Str → Option Value} {name : Str} {scope : Scope} {cd : Value} {Q : Unit → Shared → Prop} {cls : String} {l : List Env} {frs new : List (Addr × Obj)}
/-- the look at an exception that was raised while another was handled -/
theorem noted_chain (hfr : A.frames = some (envOf name scope L a cd :: l)) (Fs : Frs l frs) (hx : ChainExc h s'.heap e cls X) (F : Fr hb L h m) (N : News hb L h (new ++ frs)) (hap : ∀ p ∈ new, p.1 ∉ L :: frs.map (·.1))
    (k : ∀ h' frs', SameUp frs frs' → Frs l frs' → TT.HeldN hb L h' m e cls (new ++ frs') → Q () { s' with heap := h' }) (hk : scope.kind = .function) :
    wpAny (model PG w) A (noteFrame (.ref e) (envOf name scope L a cd)) Q E s' := by
  refine cps fun P9 k9 => ?_
  obtain ⟨ob, tp, he, hcls, hd⟩ := hx.there
  refine k9 ?_
  clear k9 P9
  refine cps fun P9 k9 => ?_
  obtain ⟨hff, hNs, frs₁, SU, ht⟩ := frames_at (name := name) (a := a) (cd := cd) (h' := s'.heap) (base := gone h (L :: frs.map (·.1))) hk Fs F N tail_sub (fun b o hb' => ⟨o.slots, hx.keeps b o hb'⟩) fun b hm => gone_none hm
  refine k9 ?_
  clear k9 P9
  unfold noteFrame
  simp only [show (envOf name scope L a cd).frame = some L from rfl]
  refine wpAny_bind (wpAny_field he hd (x := .none) rfl ?_)
  rw [if_neg (by decide)]
  refine wpAny_entryW (a0 := tp) hfr hff rfl he (fun b o eb => hx.keeps b o (gone_some eb).2) (TI.none_of (fun b o eb => (gone_some eb).2) hx.new) hd (by show 1 < 6; decide) rfl fun h' hN => ?_
  refine cps fun P9 k9 => ?_
  obtain ⟨frs₂, SU₂, Fs₂, H⟩ := TLg.held_of_notedA (X := cls) Fs F N hap hNs SU ht hx.new (by rw [← hcls]; exact hN)
  refine k9 ?_
  clear k9 P9
  exact k h' frs₂ SU₂ Fs₂ H
end
section
open TI
variable {w : World} {A : Around} {s s' : Shared} {hb h : Heap} {L Lx a e : Addr} {m : Str → Option Value} {name : Str} {scope : Scope} {cd : Value} {env : Env} {oL : Obj} {new : List (Addr × Obj)}
/-- an IndexError that is handled, and its traceback -/
structure Hand (L T : Addr) (oe oT : Obj) (fl : Value) : Prop where
  cls : oe.cls = .type "IndexError"
  data : ∃ vs, oe.data = .fields vs ∧ vs[1]? = some (.ref T) ∧ vs[2]? = some .none
  tb : ∃ tvs, oT.data = .fields tvs ∧ tvs[3]? = some fl
theorem fin_enter {Q : Flow → Shared → Prop} {E E'' : Value → Shared → Prop} {final : List Stmt} (hfr : A.frames = some (envOf name scope L a cd :: [env])) (Fs : Frs [env] [(Lx, oL)]) (hx : Heap.NewExc h s'.heap e "IndexError") (F : Fr hb L h m) (N : News hb L h (new ++ [(Lx, oL)])) (hap : ∀ p ∈ new, p.1 ≠ Lx)
    (k : ∀ h' T oe oT sl, Hand L T oe oT .none → Fr hb L h' m → News hb L h' ((e, oe) :: (T, oT) :: (new ++ [(Lx, { oL with slots := sl })])) → (∀ p ∈ new ++ [(Lx, oL)], p.1 ≠ T ∧ p.1 ≠ e) → T ≠ e →
      wpAny (model PG w) (A.mark (some (.ref e))) (execs final (envOf name scope L a cd))
        (fun g s₂ => match g with | .next => wpAny (model PG w) A (PySem.passOn "try.finally" (.ref e) (envOf name scope L a cd)) Q E s₂ | g => wpAny (model PG w) A (setFlight (.ref e) none) (fun _ s₃ => Q g s₃) E s₂)
        (notedBy (model PG w) (A.mark (some (.ref e))) (envOf name scope L a cd) (cameBackBy (model PG w) A (envOf name scope L a cd) E)) { s' with heap := h' })
    (hk : scope.kind = .function) :
    wpAny (model PG w) A (noteFrame (.ref e) (envOf name scope L a cd)) (fun _ s₂ => FinallyRaised PG w A E (envOf name scope L a cd) final Q (.ref e) s₂) E'' s' := by
  refine cps fun P9 k9 => ?_
  obtain ⟨ob, tp, he, hcls, hd⟩ := hx.there
  refine k9 ?_
  clear k9 P9
  refine cps fun P9 k9 => ?_
  obtain ⟨hff, hNs, _, _, _⟩ := frames_at (name := name) (a := a) (cd := cd) (h' := s'.heap) (base := gone h (L :: [(Lx, oL)].map (·.1))) hk Fs F N tail_sub (fun b o hb' => ⟨o.slots, hx.keeps b o hb'⟩) fun b hm => gone_none hm
  refine k9 ?_
  clear k9 P9
  have hfx : env.frame = some Lx := Fs.2.1
  have hLe : e ≠ L := fun q => by
    obtain ⟨o, _, _, ho, _⟩ := F.ns
    rw [← q, hx.new] at ho; cases ho
  have hxe : e ≠ Lx := fun q => by
    have z := (N (Lx, oL) (List.mem_append_right _ List.mem_cons_self)).1
    rw [← q, hx.new] at z; cases z
  have hS : (envOf name scope L a cd :: [env]).filterMap (·.frame) = [L, Lx] := by
    simp [List.filterMap, hfx, envOf]
  unfold noteFrame
  simp only [show (envOf name scope L a cd).frame = some L from rfl]
  refine wpAny_bind (wpAny_field he hd (x := .none) rfl ?_)
  rw [if_neg (by decide)]
  refine wpAny_bind (wpAny_frameOf_fun hfr hff rfl fun h₁ hs₁ => ?_)
  rw [hS] at hs₁
  refine wpAny_bind (wpAny_entryPlaceOf fun pl hpl => ?_)
  unfold EntryCells.newEntry newFields
  refine wpAny_bind (wpAny_newObj_type ?_ (hpl.sizeOk5 _ _ _ _ _))
  have he₁ : h₁.get? e = some ob := (hs₁.2.1 e (by simp [hLe, hxe])).trans he
  generalize hob : ({ cls := .type "traceback", dict := none, data := .fields ([Value.none, .ref L, .none, rawInt L, .none] ++ (if pl.isEmpty then List.replicate 6 Value.none else pl)).toArray } : Obj) = oT
  have he₂ := Heap.get?_push_of_some (h := h₁) oT he₁
  refine wpAny_setField he₂ hd (by show 1 < 6; decide) ?_
  have hTe : h₁.objs.size ≠ e := Nat.ne_of_gt (Heap.lt_size he₁)
  have hoT : ∃ tvs, oT.data = .fields tvs ∧ tvs[3]? = some (rawInt L) := by
    subst hob
    exact ⟨_, rfl, by first | (simp; done) | (rcases hpl with rfl | ⟨_, _, _, _, _, _, _, rfl⟩ <;> simp)⟩
  have hfT : oT.isFreed = false := by obtain ⟨_, q, _⟩ := hoT; exact Obj.isFreed_of_fields q
  have hT₂ : (h₁.push oT).get? h₁.objs.size = some oT := Heap.get?_push_size h₁ hfT
  have hd₃ := Obj.data_mapFields hd (·.setIfInBounds 1 (Value.ref h₁.objs.size))
  generalize hg : (h₁.push oT).update e (Obj.mapFields (·.setIfInBounds 1 (Value.ref h₁.objs.size))) = h₃
  have he₃ : h₃.get? e = some (Obj.mapFields (·.setIfInBounds 1 (Value.ref h₁.objs.size)) ob) := by
    rw [← hg]; exact Heap.get?_update_self _ he₂ (Obj.isFreed_of_fields hd₃)
  have hT₃ : h₃.get? h₁.objs.size = some oT := by
    rw [← hg, Heap.get?_update_other _ _ (Ne.symm hTe)]; exact hT₂
  have keep₁ : ∀ b o, b ≠ e → h₁.get? b = some o → h₃.get? b = some o := fun b o hbe hbo => by
    rw [← hg, Heap.get?_update_other _ _ (Ne.symm hbe)]
    exact Heap.get?_push_of_some _ hbo
  have keep : ∀ b o, b ≠ L → b ≠ Lx → h.get? b = some o → h₃.get? b = some o := fun b o q1 q2 hbo =>
    keep₁ b o (fun q => by rw [q, hx.new] at hbo; cases hbo) ((hs₁.2.1 b (by simp [q1, q2])).trans (hx.keeps b o hbo))
  have up : ∀ b o, h.get? b = some o → ∃ sl, h₃.get? b = some { o with slots := sl } := fun b o hbo => by
    obtain ⟨sl, q⟩ := hs₁.2.2 b o (hx.keeps b o hbo)
    exact ⟨sl, keep₁ b _ (fun q => by rw [q, hx.new] at hbo; cases hbo) q⟩
  have hTn : h.get? h₁.objs.size = none := by
    cases q : h.get? h₁.objs.size with
    | none => rfl
    | some o =>
      have := Heap.lt_size (hx.keeps _ _ q)
      rw [← hs₁.1] at this
      exact absurd this (Nat.lt_irrefl _)
  have hbn : ∀ {b}, h.get? b = none → hb.get? b = none := fun {b} q => by
    cases q2 : hb.get? b with
    | none => rfl
    | some o => rw [F.keep _ _ q2] at q; cases q
  have hLn : hb.get? L = none := Heap.get?_none_of_le F.above
  have zx := N (Lx, oL) (List.mem_append_right _ List.mem_cons_self)
  obtain ⟨sl, hslx⟩ := up Lx oL zx.1
  have hTL : h₁.objs.size ≠ L := fun q => by
    obtain ⟨o, _, _, ho, _⟩ := F.ns
    rw [← q, hTn] at ho; cases ho
  have hTx : h₁.objs.size ≠ Lx := fun q => by
    have z := zx.1
    rw [← q, hTn] at z; cases z
  have F₃ : Fr hb L h₃ m := by
    obtain ⟨o, es, ep, ho, r⟩ := F.ns
    obtain ⟨sl', ho'⟩ := up L o ho
    refine ⟨⟨_, es, ep, ho', r⟩, fun b o' q => keep b o' (fun q2 => by rw [q2, hLn] at q; cases q) (fun q2 => by rw [q2, zx.2.2] at q; cases q) (F.keep _ _ q), F.above⟩
  obtain ⟨tvs, hdT, ht3⟩ := hoT
  have hsz3 : 3 < tvs.size := (Array.getElem?_eq_some_iff.mp ht3).1
  have hd1 : (#[tp, Value.none, .none, .none, .bool false, .none].setIfInBounds 1 (Value.ref h₁.objs.size))[1]? = some (Value.ref h₁.objs.size) := rfl
  have hne : ∀ p ∈ new ++ [(Lx, oL)], p.1 ≠ h₁.objs.size ∧ p.1 ≠ e := fun p hp => by
    have z := (N p hp).1
    exact ⟨fun q => (by rw [q, hTn] at z; cases z), fun q => (by rw [q, hx.new] at z; cases z)⟩
  refine ⟨ref_ne_byPass _, ?_⟩
  have H : HeldHere hb L h₃ m e "IndexError" := ⟨F₃, ⟨_, _, h₁.objs.size, oT, tvs, he₃, (Obj.cls_mapFields _ _).trans hcls, hd₃, hd1, hT₃, hdT, ht3, hTL, hTe, hbn hTn⟩, hbn hx.new⟩
  refine noted_again (s := { s' with heap := h₃ }) H fun _ _ => ?_
  refine wpAny_setFlight_none (s := { s' with heap := h₃ }) he₃ hd₃ hd1 hT₃ hdT hsz3 ?_
  generalize hg4 : h₃.update h₁.objs.size (Obj.mapFields (·.setIfInBounds 3 .none)) = h₄
  have oth : ∀ b o, b ≠ h₁.objs.size → h₃.get? b = some o → h₄.get? b = some o := fun b o q1 q2 => by
    rw [← hg4, Heap.get?_update_other _ _ (Ne.symm q1)]; exact q2
  have hd₄ := Obj.data_mapFields hdT (·.setIfInBounds 3 .none)
  have hT₄ : h₄.get? h₁.objs.size = some (Obj.mapFields (·.setIfInBounds 3 .none) oT) := by
    rw [← hg4]; exact Heap.get?_update_self _ hT₃ (Obj.isFreed_of_fields hd₄)
  have F₄ : Fr hb L h₄ m := by
    obtain ⟨o, es, ep, ho, r⟩ := F₃.ns
    exact ⟨⟨o, es, ep, oth _ _ hTL.symm ho, r⟩, fun b o' q => oth _ _ (fun q2 => by rw [q2, hbn hTn] at q; cases q) (F₃.keep _ _ q), F₃.above⟩
  refine k h₄ h₁.objs.size _ _ sl ⟨(Obj.cls_mapFields _ _).trans hcls, ⟨_, hd₃, hd1, rfl⟩, ⟨_, hd₄, by simp [Array.getElem?_setIfInBounds, hsz3]⟩⟩ F₄ (fun p hp => ?_) hne hTe
  rcases List.mem_cons.mp hp with rfl | hp
  · exact ⟨oth _ _ hTe.symm he₃, hLe, hbn hx.new⟩
  rcases List.mem_cons.mp hp with rfl | hp
  · exact ⟨hT₄, hTL, hbn hTn⟩
  rcases List.mem_append.mp hp with hp | hp
  · have z := N p (List.mem_append_left _ hp)
    exact ⟨oth _ _ (hne p (List.mem_append_left _ hp)).1 (keep _ _ z.2.1 (hap p hp) z.1), z.2⟩
  · rw [List.mem_singleton.mp hp]
    exact ⟨oth _ _ hTx.symm hslx, zx.2⟩
theorem fin_pass {T : Addr} {oe oT : Obj} {P : Value → Shared → Prop} {E₀ : Value → Shared → Prop} {Q : Flow → Shared → Prop} {what : String} (H : Hand L T oe oT .none) (F : Fr hb L s.heap m) (N : News hb L s.heap ((e, oe) :: (T, oT) :: new)) (hne : ∀ p ∈ new, p.1 ≠ T) (hTe : T ≠ e)
    (k : ∀ h', TT.HeldN hb L h' m e "IndexError" new → P (.ref e) { s with heap := h' }) :
    wpAny (model PG w) A (PySem.passOn what (.ref e) (envOf name scope L a cd)) Q (fun x s₁ => wpAny (model PG w) A (noteFrame x (envOf name scope L a cd)) (fun _ s₂ => P x s₂) E₀ s₁) s := by
  refine cps fun P9 k9 => ?_
  obtain ⟨hcls, ⟨vs, hd, h1, _⟩, ⟨tvs, htd, h3⟩⟩ := H
  refine k9 ?_
  clear k9 P9
  have ze := N (e, oe) List.mem_cons_self
  have zT := N (T, oT) (List.mem_cons_of_mem _ List.mem_cons_self)
  have hsz : 3 < tvs.size := (Array.getElem?_eq_some_iff.mp h3).1
  refine cps fun P9 k9 => ?_
  obtain ⟨oL, esL, epL, hL, hLd, hLk, hLf⟩ := F.ns
  refine k9 ?_
  clear k9 P9
  have fin : wpAny (model PG w) A (setFlight (.ref e) (envOf name scope L a cd).frame) (fun _ s' => wpAny (model PG w) A (noteFrame (.ref e) (envOf name scope L a cd)) (fun _ s₂ => P (.ref e) s₂) E₀ s') (fun x s₁ => wpAny (model PG w) A (noteFrame x (envOf name scope L a cd)) (fun _ s₂ => P x s₂) E₀ s₁) s := by
    unfold setFlight
    refine wpAny_bind (wpAny_field ze.1 hd h1 ?_)
    rw [if_pos (show (Value.ref T != Value.none) = true from by simp)]
    show wpAny _ A (setField (.ref T) 3 (rawInt L)) _ _ s
    refine wpAny_setField zT.1 htd hsz ?_
    generalize hg : s.heap.update T (Obj.mapFields (·.setIfInBounds 3 (rawInt L))) = h'
    have oth : ∀ b o, b ≠ T → s.heap.get? b = some o → h'.get? b = some o := fun b o q1 q2 => by
      rw [← hg, Heap.get?_update_other _ _ (Ne.symm q1)]; exact q2
    have hd₄ := Obj.data_mapFields htd (·.setIfInBounds 3 (rawInt L))
    have hT₄ : h'.get? T = some (Obj.mapFields (·.setIfInBounds 3 (rawInt L)) oT) := by
      rw [← hg]; exact Heap.get?_update_self _ zT.1 (Obj.isFreed_of_fields hd₄)
    have F' : Fr hb L h' m := ⟨⟨oL, esL, epL, oth _ _ zT.2.1.symm hL, hLd, hLk, hLf⟩, fun b o' q => oth _ _ (fun q2 => by rw [q2, zT.2.2] at q; cases q) (F.keep _ _ q), F.above⟩
    have HH : HeldHere hb L h' m e "IndexError" := ⟨F', ⟨_, _, T, _, _, oth _ _ hTe.symm ze.1, hcls, hd, h1, hT₄, hd₄, by simp [Array.getElem?_setIfInBounds, hsz], zT.2.1, hTe, zT.2.2⟩, ze.2.2⟩
    refine noted_again (s := { s with heap := h' }) HH fun _ _ => k h' ⟨HH, fun p hp => ?_, ?_⟩
    · have z := N p (List.mem_cons_of_mem _ (List.mem_cons_of_mem _ hp))
      exact ⟨oth _ _ (hne p hp) z.1, z.2⟩
    · intro ob vs' tb q1 q2 q3 p hp
      rw [oth _ _ hTe.symm ze.1] at q1
      obtain rfl := Option.some.inj q1
      rw [hd] at q2
      injection q2 with q2
      subst q2
      rw [h1] at q3
      injection q3 with q3
      injection q3 with q3
      rw [← q3]
      exact hne p hp
  unfold PySem.passOn
  refine wpAny_bind (wpAny_field ze.1 hd h1 ?_)
  rw [if_neg (show ¬ ((Value.ref T == Value.none) = true) from by simp)]
  first
    | exact wpAny_bind (wpAny_pure (wpAny_bind (wpAny_mono fin (fun _ _ x => wpAny_throw x) fun _ _ x => x)))
    | exact wpAny_bind (wpAny_mono fin (fun _ _ x => wpAny_throw x) fun _ _ x => x)
end
section
section
variable {w : World} {A : Around} {E : Value → Shared → Prop} {s : Shared} {h₀ : Heap} {L l : Addr} {m : Str → Option Value} {news : List (Addr × Obj)} {vs : List Value} {ns : List Int} {n : Nat}
theorem m_slice {value slice : PySem.Expr} {k : Nat} {t : Tok} {Q : Value → Shared → Prop} (F : Fr h₀ L s.heap m) (N : News h₀ L s.heap news) (hm : (l, lst vs n) ∈ news) (hI : IntsAre vs ns) (hz : ns.length ≤ 1000)
    (h : ∀ D h' zs, IntsAre zs (ns.drop k) → Fr h₀ L h' m → News h₀ L h' ((D, lst zs 0) :: news) → (∀ p ∈ news, p.1 < D) → Q (.ref D) { s with heap := h' })
    (hs : subscripted slice false (.ref l) (.ref s.heap.objs.size) = operate [.ref s.heap.objs.size, .ref l] (getItem (.ref l) (.ref s.heap.objs.size))) (ht : ∀ r, letTemporaryGo value (.ref l) r = pure ()) :
    wpAny (model PG w) A (subscriptTail value slice (.ref l) (.ref s.heap.objs.size)) Q E { s with heap := s.heap.push { cls := .type "slice", data := .fields #[.int (k : Nat) t, .none, .none] } } :=
  kmk_slice F N (m_isList N hm) (.int k t) .none (fun D h' F' N' l1 => h D h' (slicePick vs.toArray (some (k : Int)) none none).toList (by have e := slice_ints_fromW hI (x := (k : Int)) (by lia); rw [Int.toNat_natCast] at e; exact e) F' N' l1) hs ht (by rw [List.size_toArray, hI.length]; unfold sizeLine; lia)
theorem m_extend {b : Addr} {zs : List Value} {n2 : Nat} {Q : Value → Shared → Prop} (F : Fr h₀ L s.heap m) (N : News h₀ L s.heap news) (hm : (l, lst vs n) ∈ news) (hb : (b, lst zs n2) ∈ news) (hlb : b ≠ l) (hz : vs.length + zs.length ≤ 1000)
    (h : ∀ h' k, Fr h₀ L h' m → News h₀ L h' (put l (lst (vs ++ zs) k) news) → Q .none { s with heap := h' }) : wpAny (model PG w) A (call (.builtin "list.extend") [.ref l, .ref b]) Q E s := by
  have hb' : (b, lst zs n2) ∈ put l (lst vs n) news := mem_put hb hlb
  have hlong : ¬(!vs.toArray.isEmpty && Builtin.List.listTooLong (vs.toArray.size + zs.toArray.size)) = true := by
    rw [List.size_toArray, List.size_toArray, Bool.and_eq_true]
    intro q
    have := q.2
    unfold Builtin.List.listTooLong at this
    simp at this
    unfold sizeLine at this
    lia
  rcases zs with _ | ⟨z, r⟩
  · exact kxn_extend (n := n) (its := vs.toArray) (its2 := #[]) F (put_news N hm) hb' rfl put_upd hlong (by simp; unfold sizeLine; simp at hz; lia) (by simp; unfold sizeLine; simp at hz; lia) fun h' F' N' => h h' n F' (by rw [List.append_nil]; exact N')
  · exact kl_extend (n := n) (its := vs.toArray) (its2 := (z :: r).toArray) F (put_news N hm) hb' (l := vs ++ z :: r) rfl (by simp) put_upd hlong (by simp; unfold sizeLine; simp at hz; lia) (by simp; unfold sizeLine; simp at hz; lia) fun h' F' N' => h h' (n + 1) F' N'
end
structure DSt where
  i : Nat
  j : Nat
  vs : List Value
  ms : List Int
  ys : List Value
  ns : List Int
  k1 : Nat
  k2 : Nat
  t1 : Tok
  t2 : Tok
  sl : Array (Option Value)
def sdiff : List Int → List Int → List Int × List Int
  | [], ys => ([], ys)
  | x :: xs, [] => (x :: xs, [])
  | x :: xs, y :: ys => if x < y then let r := sdiff xs (y :: ys); (x :: r.1, r.2) else if y < x then let r := sdiff (x :: xs) ys; (r.1, y :: r.2) else sdiff xs ys
theorem sdiff_nil (xs : List Int) : sdiff xs [] = (xs, []) := by cases xs <;> simp [sdiff]
theorem sdiff_nil_left (ys : List Int) : sdiff [] ys = ([], ys) := by simp [sdiff]
theorem while0 {w : World} {A : Around} {E : Value → Shared → Prop} {s : Shared} {env : Env} {test : PySem.Expr} {body : List Stmt} {pos : Pos} {Q : Flow → Shared → Prop} (hE : PassesOwn (model PG w) A env E)
    (h : wpAny (model PG w) A (isTrue test env (eval test env)) (fun b s₂ => b = false ∧ Q .next s₂) E s) : wpAny (model PG w) A (exec (.While test body [] pos) env) Q E s :=
  whl_start 1 (whl_turn hE (wpAny_mono h (fun b s₂ x => by
    obtain ⟨rfl, x⟩ := x
    exact WhlIf.no rfl (wpAny_execs_nil x)) fun _ _ z => z))
theorem drop_at {xs : List Int} {i : Nat} (hi : i < xs.length) : xs.drop i = xs.getD i 0 :: xs.drop (i + 1) := by
  rw [List.drop_eq_getElem_cons hi]
  congr 1
  simp [List.getD, List.getElem?_eq_getElem hi]
abbrev DInv (xs ys : List Int) (i j : Nat) (ms ns : List Int) : Prop := (ms ++ (sdiff (xs.drop i) (ys.drop j)).1, ns ++ (sdiff (xs.drop i) (ys.drop j)).2) = sdiff xs ys
section
variable {xs ys ms ns : List Int} {i j : Nat}
theorem d_lt (hi : i < xs.length) (hj : j < ys.length) (h : xs.getD i 0 < ys.getD j 0) (q : DInv xs ys i j ms ns) : DInv xs ys (i + 1) j (ms ++ [xs.getD i 0]) ns := by
  unfold DInv at q ⊢
  rw [drop_at hi, drop_at hj] at q
  rw [drop_at hj, ← q]
  simp only [sdiff, if_pos h, List.append_assoc]
  rfl
theorem d_gt (hi : i < xs.length) (hj : j < ys.length) (h : ys.getD j 0 < xs.getD i 0) (q : DInv xs ys i j ms ns) : DInv xs ys i (j + 1) ms (ns ++ [ys.getD j 0]) := by
  unfold DInv at q ⊢
  rw [drop_at hi, drop_at hj] at q
  rw [drop_at hi, ← q]
  simp only [sdiff, if_neg (Int.not_lt.mpr (Int.le_of_lt h)), if_pos h, List.append_assoc]
  rfl
theorem d_eq (hi : i < xs.length) (hj : j < ys.length) (h : ¬ xs.getD i 0 < ys.getD j 0) (h' : ¬ ys.getD j 0 < xs.getD i 0) (q : DInv xs ys i j ms ns) : DInv xs ys (i + 1) (j + 1) ms ns := by
  unfold DInv at q ⊢
  rw [drop_at hi, drop_at hj] at q
  rw [← q]
  simp only [sdiff, if_neg h, if_neg h']
theorem d_end (h : xs.length ≤ i ∨ ys.length ≤ j) (q : DInv xs ys i j ms ns) : (ms ++ xs.drop i, ns ++ ys.drop j) = sdiff xs ys := by
  unfold DInv at q
  rcases h with h | h
  · have e9 : xs.drop i = [] := List.drop_eq_nil_of_le h
    rw [e9, sdiff_nil_left] at q
    rw [e9]
    exact q
  · have e9 : ys.drop j = [] := List.drop_eq_nil_of_le h
    rw [e9, sdiff_nil] at q
    rw [e9]
    exact q
theorem d_next (hs : xs.Pairwise (· < ·)) (h : i + 1 < xs.length) : (xs.getD (i + 1) 0 == xs.getD i 0) = false := by
  have e1 : xs.getD (i + 1) 0 = xs[i + 1] := by simp [List.getD, List.getElem?_eq_getElem h]
  have e2 : xs.getD i 0 = xs[i] := by simp [List.getD, List.getElem?_eq_getElem (Nat.lt_of_succ_lt h)]
  rw [e1, e2, beq_eq_false_iff_ne]
  have := (List.pairwise_iff_getElem.mp hs) i (i + 1) (Nat.lt_of_succ_lt h) h (Nat.lt_succ_self _)
  lia
end
theorem clean_mi {h₀ h : Heap} {L un mi : Addr} {o1 o2 o' : Obj} {R : List (Addr × Obj)} (hne : un ≠ mi) (hR : ∀ p ∈ R, p.1 ≠ mi) (N : News h₀ L h (put mi o' ((un, o1) :: (mi, o2) :: R))) : News h₀ L h ((un, o1) :: (mi, o') :: R) :=
  News.sub N (all_cons (mem_put List.mem_cons_self hne) (all_cons (put_mem) (fun p hp => mem_put (List.mem_cons_of_mem _ (List.mem_cons_of_mem _ hp)) (hR p hp))))
theorem clean_un {h₀ h : Heap} {L un mi : Addr} {o1 o2 o' : Obj} {R : List (Addr × Obj)} (hne : mi ≠ un) (hR : ∀ p ∈ R, p.1 ≠ un) (N : News h₀ L h (put un o' ((un, o1) :: (mi, o2) :: R))) : News h₀ L h ((un, o') :: (mi, o2) :: R) :=
  News.sub N (all_cons (put_mem) (all_cons (mem_put (List.mem_cons_of_mem _ List.mem_cons_self) hne) (fun p hp => mem_put (List.mem_cons_of_mem _ (List.mem_cons_of_mem _ hp)) (hR p hp))))
structure DF (l1 l2 mi un : Addr) (xs ys : List Int) (c : DSt) (m' : Str → Option Value) : Prop where
  m1 : m' (Str.ofString "expected") = some (.ref l1)
  m2 : m' (Str.ofString "actual") = some (.ref l2)
  m3 : m' (Str.ofString "missing") = some (.ref mi)
  m4 : m' (Str.ofString "unexpected") = some (.ref un)
  m5 : m' (Str.ofString "i") = some (.int (c.i : Nat) c.t1)
  m6 : m' (Str.ofString "j") = some (.int (c.j : Nat) c.t2)
  p1 : IntsAre c.vs c.ms
  p2 : IntsAre c.ys c.ns
  p3 : c.i ≤ xs.length
  p4 : c.j ≤ ys.length
  p5 : (c.ms ++ xs.drop c.i, c.ns ++ ys.drop c.j) = sdiff xs ys
  p6 : c.ms.length ≤ c.i
  p7 : c.ns.length ≤ c.j
theorem DF.slots {l1 l2 mi un : Addr} {xs ys : List Int} {c : DSt} {m' : Str → Option Value} {sl : Array (Option Value)} (d : DF l1 l2 mi un xs ys c m') : DF l1 l2 mi un xs ys { c with sl := sl } m' := ⟨d.m1, d.m2, d.m3, d.m4, d.m5, d.m6, d.p1, d.p2, d.p3, d.p4, d.p5, d.p6, d.p7⟩
/-- what is so where the try of sorted_list_difference is left by an IndexError -/
def DRaise (h₀ : Heap) (L' L : Addr) (oL : Obj) (s₀ : Shared) (l1 l2 mi un : Addr) (news : List (Addr × Obj)) (xs ys : List Int) (e : Value) (s : Shared) : Prop :=
  ∃ c : DSt, ∃ m' h tk x, e = .ref x ∧ s = { s₀ with heap := h, toks := tk } ∧ TT.HeldN h₀ L' h m' x "IndexError" (((un, lst c.ys c.k2) :: (mi, lst c.vs c.k1) :: news) ++ [(L, { oL with slots := c.sl })]) ∧
    DF l1 l2 mi un xs ys c m'
theorem try_cut {w : World} {A : Around} {env : Env} {body : List Stmt} {h₁ : ExceptHandler} {hs : List ExceptHandler} {pos : Pos} {Q : Flow → Shared → Prop} {E : Value → Shared → Prop} {s : Shared} (P : Value → Shared → Prop)
    (h1 : wpAny (model PG w) A (execs body env) Q (fun e s₁ => wpAny (model PG w) A (noteFrame e env) (fun _ s₂ => P e s₂) E s₁) s)
    (h2 : ∀ e s₂, P e s₂ → wpAny (model PG w) A (setFlight e none) (fun _ s₃ => wpAny (model PG w) A (handleBy e env (h₁ :: hs)) Q E s₃) E s₂) :
    wpAny (model PG w) A (exec (.Try body (h₁ :: hs) [] [] pos) env) Q E s := by
  refine wpAny_Try_except (wpAny_mono h1 (fun f s₁ x => ?_) fun e s₁ x => wpAny_mono x (fun _ s₂ y => h2 e s₂ y) fun _ _ z => z)
  cases f
  case next => exact wpAny_execs_nil x
  all_goals exact x
/-- the facts at a raise: what the frame says and how far it has come -/
structure DAt (h₀ : Heap) (L' L : Addr) (oL : Obj) (l1 l2 mi un : Addr) (news : List (Addr × Obj)) (xs ys : List Int) (c : DSt) (m' : Str → Option Value) (h : Heap) : Prop where
  F : Fr h₀ L' h m'
  N : News h₀ L' h (((un, lst c.ys c.k2) :: (mi, lst c.vs c.k1) :: news) ++ [(L, { oL with slots := c.sl })])
  d : DF l1 l2 mi un xs ys c m'
theorem diff_raise {w : World} {A : Around} {h₀ : Heap} {L L' a e : Addr} {env : Env} {oL : Obj} {s₀ : Shared} {l1 l2 mi un : Addr} {news : List (Addr × Obj)} {xs ys : List Int} {c : DSt} {m' : Str → Option Value} {h h' : Heap} {tk : Nat} {name : Str} {sc : Scope} {cd : Value} {E : Value → Shared → Prop}
    (G : Sit1 w A h₀ L env) (Fs : TI.Frs [env] [(L, oL)]) (hL : ∀ p ∈ (un, lst c.ys c.k2) :: (mi, lst c.vs c.k1) :: news, p.1 ≠ L) (D : DAt h₀ L' L oL l1 l2 mi un news xs ys c m' h) (hx : Heap.NewExc h h' e "IndexError") (hk : sc.kind = .function) :
    wpAny (model PG w) (A.deeper (envOf name sc L' a cd)) (noteFrame (.ref e) (envOf name sc L' a cd)) (fun _ s₂ => DRaise h₀ L' L oL s₀ l1 l2 mi un news xs ys (.ref e) s₂) E { s₀ with heap := h', toks := tk } := by
  refine TLg.noted_newA (s' := { s₀ with heap := h', toks := tk }) G.frames (frs_slots Fs c.sl) hx D.F D.N ?_ ?_ hk
  · intro p hp hq
    rcases List.mem_cons.mp hq with hq | hq
    · exact (D.N p (List.mem_append_left _ hp)).2.1 hq
    · exact hL p hp (List.mem_singleton.mp hq)
  · intro h5 frs' SU Fs' H
    obtain ⟨sl', rfl⟩ := TLg.one_up SU
    exact ⟨{ c with sl := sl' }, m', h5, tk, e, rfl, rfl, H, D.d.slots⟩
theorem diff_chain {w : World} {A A' : Around} {h₀ : Heap} {L L' a e X : Addr} {env : Env} {oL : Obj} {s₀ : Shared} {l1 l2 mi un : Addr} {news : List (Addr × Obj)} {xs ys : List Int} {c : DSt} {m' : Str → Option Value} {h h' : Heap} {tk : Nat} {name : Str} {sc : Scope} {cd : Value} {E : Value → Shared → Prop}
    (hA : A'.frames = some [envOf name sc L' a cd, env]) (Fs : TI.Frs [env] [(L, oL)]) (hL : ∀ p ∈ (un, lst c.ys c.k2) :: (mi, lst c.vs c.k1) :: news, p.1 ≠ L) (D : DAt h₀ L' L oL l1 l2 mi un news xs ys c m' h) (hx : ChainExc h h' e "IndexError" X) (hk : sc.kind = .function) :
    wpAny (model PG w) A' (noteFrame (.ref e) (envOf name sc L' a cd)) (fun _ s₂ => DRaise h₀ L' L oL s₀ l1 l2 mi un news xs ys (.ref e) s₂) E { s₀ with heap := h', toks := tk } := by
  refine noted_chain (s' := { s₀ with heap := h', toks := tk }) hA (frs_slots Fs c.sl) hx D.F D.N ?_ ?_ hk
  · intro p hp hq
    rcases List.mem_cons.mp hq with hq | hq
    · exact (D.N p (List.mem_append_left _ hp)).2.1 hq
    · exact hL p hp (List.mem_singleton.mp hq)
  · intro h5 frs' SU Fs' H
    obtain ⟨sl', rfl⟩ := TLg.one_up SU
    exact ⟨{ c with sl := sl' }, m', h5, tk, e, rfl, rfl, H, D.d.slots⟩
local macro_rules | `(tactic| walk_at "call builtin:list.extend") => `(tactic| refine Stop.mk ?_)
local macro_rules | `(tactic| walk_at "exec Try") => `(tactic| refine Stop.mk ?_)
set_option maxRecDepth 100000 in
set_option maxHeartbeats 8000000 in
theorem sdiff_spec {w : World} {A : Around} {h₀ : Heap} {L : Addr} {env : Env} {s : Shared} {m : Str → Option Value} {news : List (Addr × Obj)} {l1 l2 : Addr} {us ws : List Value} {xs ys : List Int} {n1 n2 : Nat} {Q E : Value → Shared → Prop}
    (G : Sit1 w A h₀ L env) (F : Fr h₀ L s.heap m) (N : News h₀ L s.heap news) (hd : A.depth + 2 < recursionLimit) (hu : A.units + 16 < cLine)
    (hl1 : (l1, lst us n1) ∈ news) (hl2 : (l2, lst ws n2) ∈ news) (hI1 : IntsAre us xs) (hI2 : IntsAre ws ys) (hz1 : xs.length ≤ 100) (hz2 : ys.length ≤ 100)
    (hs1 : xs.Pairwise (· < ·)) (hs2 : ys.Pairwise (· < ·))
    (hret : ∀ T mi un vs' ws' k1 k2 h' tk', Fr h₀ L h' m → News h₀ L h' ((T, tup [.ref mi, .ref un]) :: (mi, lst vs' k1) :: (un, lst ws' k2) :: news) → (∀ p ∈ news, p.1 < mi) → mi < un → un < T →
      IntsAre vs' (sdiff xs ys).1 → IntsAre ws' (sdiff xs ys).2 → Q (.ref T) { s with heap := h', toks := tk' }) :
    wpAny (model PG w) A (call (.ref 107) [.ref l1, .ref l2]) Q E s := by
  have hlen1 := hI1.length
  have hlen2 := hI2.length
  w_on
  w_strict (
  refine' enterE [(Str.ofString "actual", .ref l2), (Str.ofString "expected", .ref l1)] G F N ?k6 ?k7 ?k8 ?k9 ?kp ?kB ?_ ?c2 ?c3 ?c4 ?c5
  (case k6 => k_dflt k_is)
  (case k7 => k_dflt k_is)
  (case k8 => walk_at "room")
  (case k9 => exact rfl)
  (case kp => exact rfl)
  (case kB => exact locs rfl)
  (case c2 => exact rfl)
  (case c3 => exact rfl)
  (case c4 => exact rfl)
  (case c5 => decide)
  intro L' oL h₁ tk Fs hnL hltL hLL F' N'
  dsimp only [kstB_cons, kstB_nil] at F'
  refine cps fun P9 k9 => ?_
  obtain ⟨loose, mean, mg, mb, hloose, T⟩ := G.top
  refine k9 ?_
  clear k9 P9
  have KX := G.inn
  k_steps
  (intro stop9; clear stop9)
  subst hloose
  rename_i mi _ hltm _ _ _ un _ l1n _ F1 N1
  refine' ksw_while (σ := DSt) (fun c => (un, lst c.ys c.k2) :: (mi, lst c.vs c.k1) :: (news ++ [(L, { oL with slots := c.sl })])) (fun c => [(Str.ofString "i", .int (c.i : Nat) c.t1), (Str.ofString "j", .int (c.j : Nat) c.t2)]) (fun _ => True) [Str.ofString "e", Str.ofString "a"]
    (fun c => IntsAre c.vs c.ms ∧ IntsAre c.ys c.ns ∧ c.i ≤ xs.length ∧ c.j ≤ ys.length ∧ (c.ms ++ (sdiff (xs.drop c.i) (ys.drop c.j)).1, c.ns ++ (sdiff (xs.drop c.i) (ys.drop c.j)).2) = sdiff xs ys ∧ c.ms.length ≤ c.i ∧ c.ns.length ≤ c.j) (fun c => (xs.length - c.i) + (ys.length - c.j))
    ⟨0, 0, [], [], [], [], 0, 0, ?t1, ?t2, oL.slots⟩ F1 (News.sub N1 ?_) trivial ?hk ⟨IntsAre.nil, IntsAre.nil, Nat.zero_le _, Nat.zero_le _, rfl, Nat.le_refl _, Nat.le_refl _⟩ ?_ PassesOwn.never
  case hk => exact List.forall_mem_cons.mpr ⟨by with_unfolding_all exact Eq.refl (some _), List.forall_mem_cons.mpr ⟨by with_unfolding_all exact Eq.refl (some _), fun _ h => nomatch h⟩⟩
  · exact all_cons (List.mem_cons_self) (all_cons (List.mem_cons_of_mem _ List.mem_cons_self) (fun p hp => List.mem_cons_of_mem _ (List.mem_cons_of_mem _ hp)))
  rintro ⟨i, j, vs, ms, zs, ns, k1, k2, t1, t2, sl⟩ v2 h2 tk2 - hq F2 N2
  dsimp only at hq N2
  refine an7 hq fun q1 q2 q3 q4 q5 q6 q7 => ?_
  clear hq
  dsimp only [kstB_cons, kstB_nil] at F2
  (try k_fold)
  k_steps
  (intro stop9; clear stop9)
  refine try_cut (DRaise h₀ L' L oL s l1 l2 mi un news xs ys) ?_ ?_
  · have hL9' : ∀ (o1 o2 : Obj), ∀ p ∈ (un, o1) :: (mi, o2) :: news, p.1 ≠ L := by
      have hLm : L < mi := hltm (L, oL) (List.mem_append_right _ List.mem_cons_self)
      intro o1 o2 p hp
      rcases List.mem_cons.mp hp with rfl | hp
      · exact Nat.ne_of_gt (Nat.lt_trans hLm l1n.1)
      rcases List.mem_cons.mp hp with rfl | hp
      · exact Nat.ne_of_gt hLm
      · exact hnL p hp
    have hL9 := hL9' (lst zs k2) (lst vs k1)
    have g2 := q1.length
    have g3 := q2.length
    have hum : un ≠ mi := Nat.ne_of_gt l1n.1
    have hRm : ∀ p ∈ news ++ [(L, ({ oL with slots := sl } : Obj))], p.1 ≠ mi := all_app (fun p hp => Nat.ne_of_lt (hltm p (List.mem_append_left _ hp))) (all_one (Nat.ne_of_lt (hltm (L, oL) (List.mem_append_right _ List.mem_cons_self))))
    have hRu : ∀ p ∈ news ++ [(L, ({ oL with slots := sl } : Obj))], p.1 ≠ un := all_app (fun p hp => Nat.ne_of_lt (Nat.lt_trans (hltm p (List.mem_append_left _ hp)) l1n.1)) (all_one (Nat.ne_of_lt (Nat.lt_trans (hltm (L, oL) (List.mem_append_right _ List.mem_cons_self)) l1n.1)))
    by_cases hi : i < xs.length
    · by_cases hj : j < ys.length
      · k_steps
        · (intro stop9; clear stop9)
          rename_i a9 _ _ _ _ _ _ h3 F3 N3
          rw [Int.toNat_natCast, Int.toNat_natCast] at a9
          have N4 := clean_mi hum hRm N3
          clear N3
          have q5' := d_lt hi hj a9 q5
          have q1' : ∀ t, IntsAre (vs ++ [.int (xs.getD i 0) t]) (ms ++ [xs.getD i 0]) := fun t => ints_snoc q1
          have q6' : (ms ++ [xs.getD i 0]).length ≤ i + 1 := by rw [List.length_append]; show ms.length + 1 ≤ _; lia
          refine while0 (by passes_own) ?_
          by_cases hi2 : i + 1 < xs.length
          · k_steps
            · rw [show ((i : Int) + 1).toNat = i + 1 by lia, Int.toNat_natCast]
              exact d_next hs1 hi2
            · skip
              refine ksw_end ⟨i + 1, j, _, ms ++ [xs.getD i 0], zs, ns, k1 + 1, k2, _, t2, sl⟩ F3 N4 (fun _ h => h) trivial (List.forall_mem_cons.mpr ⟨by with_unfolding_all exact Eq.refl (some _), List.forall_mem_cons.mpr ⟨by with_unfolding_all exact Eq.refl (some _), fun _ h => nomatch h⟩⟩) (by ksw_same) ⟨q1' _, q2, by show i + 1 ≤ _; lia, q4, q5', q6', q7⟩ ?_
              exact Nat.add_lt_add_right (Nat.sub_lt_sub_left hi (Nat.lt_succ_self i)) _
          · k_steps
            refine tail_any (m_isList (vs := us) (n := n1) N4 (by walk_at "member")).typeIs slot_list_getitem.lookup (wpAny_getItem_list_out G.hh (m_isList (vs := us) (n := n1) N4 (by walk_at "member")) (.inr (by rw [List.size_toArray]; lia)) (by lia) (by lia) fun h' tk' e hx => ?_) (by with_unfolding_all rfl)
            refine diff_raise (c := ⟨i + 1, j, _, ms ++ [xs.getD i 0], zs, ns, k1 + 1, k2, _, t2, sl⟩) G Fs (hL9' _ _) ⟨F3, N4, by with_unfolding_all exact Eq.refl (some _), by with_unfolding_all exact Eq.refl (some _), by with_unfolding_all exact Eq.refl (some _), by with_unfolding_all exact Eq.refl (some _), by with_unfolding_all exact Eq.refl (some _), by with_unfolding_all exact Eq.refl (some _), q1' _, q2, by show i + 1 ≤ _; lia, q4, d_end (.inl (by show xs.length ≤ i + 1; lia)) q5', q6', q7⟩ hx rfl
        · (intro stop9; clear stop9)
          rename_i a8 _ _ a9 _ _ _ _ _ _ h3 F3 N3
          rw [Int.toNat_natCast, Int.toNat_natCast] at a9
          have N4 := clean_un hum.symm hRu N3
          clear N3
          have q5' := d_gt hi hj a9 q5
          have q2' : ∀ t, IntsAre (zs ++ [.int (ys.getD j 0) t]) (ns ++ [ys.getD j 0]) := fun t => ints_snoc q2
          have q7' : (ns ++ [ys.getD j 0]).length ≤ j + 1 := by rw [List.length_append]; show ns.length + 1 ≤ _; lia
          refine while0 (by passes_own) ?_
          by_cases hj2 : j + 1 < ys.length
          · k_steps
            · rw [show ((j : Int) + 1).toNat = j + 1 by lia, Int.toNat_natCast]
              exact d_next hs2 hj2
            · skip
              refine ksw_end ⟨i, j + 1, vs, ms, _, ns ++ [ys.getD j 0], k1, k2 + 1, t1, _, sl⟩ F3 N4 (fun _ h => h) trivial (List.forall_mem_cons.mpr ⟨by with_unfolding_all exact Eq.refl (some _), List.forall_mem_cons.mpr ⟨by with_unfolding_all exact Eq.refl (some _), fun _ h => nomatch h⟩⟩) (by ksw_same) ⟨q1, q2' _, q3, by show j + 1 ≤ _; lia, q5', q6, q7'⟩ ?_
              exact Nat.add_lt_add_left (Nat.sub_lt_sub_left hj (Nat.lt_succ_self j)) _
          · k_steps
            refine tail_any (m_isList (vs := ws) (n := n2) N4 (by walk_at "member")).typeIs slot_list_getitem.lookup (wpAny_getItem_list_out G.hh (m_isList (vs := ws) (n := n2) N4 (by walk_at "member")) (.inr (by rw [List.size_toArray]; lia)) (by lia) (by lia) fun h' tk' e hx => ?_) (by with_unfolding_all rfl)
            refine diff_raise (c := ⟨i, j + 1, vs, ms, _, ns ++ [ys.getD j 0], k1, k2 + 1, t1, _, sl⟩) G Fs (hL9' _ _) ⟨F3, N4, by with_unfolding_all exact Eq.refl (some _), by with_unfolding_all exact Eq.refl (some _), by with_unfolding_all exact Eq.refl (some _), by with_unfolding_all exact Eq.refl (some _), by with_unfolding_all exact Eq.refl (some _), by with_unfolding_all exact Eq.refl (some _), q1, q2' _, q3, by show j + 1 ≤ _; lia, d_end (.inr (by show ys.length ≤ j + 1; lia)) q5', q6, q7'⟩ hx rfl
        · (intro stop9; clear stop9)
          rename_i a8 _ _ a9 _ _ _ h3 F3 N3 _ _ _ _
          rw [Int.toNat_natCast, Int.toNat_natCast] at a8 a9
          have q5' := d_eq hi hj a8 a9 q5
          refine while0 (by passes_own) ?_
          by_cases hi2 : i + 1 < xs.length
          · k_steps
            · rw [show ((i : Int) + 1).toNat = i + 1 by lia, Int.toNat_natCast]
              exact d_next hs1 hi2
            · (intro stop9; clear stop9)
              rename_i h4 F4 N4
              refine wpAny_passesOwn (by passes_own) ?_
              refine while0 (by passes_own) ?_
              by_cases hj2 : j + 1 < ys.length
              · k_steps
                · rw [show ((j : Int) + 1).toNat = j + 1 by lia, Int.toNat_natCast]
                  exact d_next hs2 hj2
                · refine ksw_end ⟨i + 1, j + 1, vs, ms, zs, ns, k1, k2, _, _, sl⟩ F4 N4 (fun _ h => h) trivial (List.forall_mem_cons.mpr ⟨by with_unfolding_all exact Eq.refl (some _), List.forall_mem_cons.mpr ⟨by with_unfolding_all exact Eq.refl (some _), fun _ h => nomatch h⟩⟩) (by ksw_same) ⟨q1, q2, by show i + 1 ≤ _; lia, by show j + 1 ≤ _; lia, q5', by show ms.length ≤ i + 1; lia, by show ns.length ≤ j + 1; lia⟩ ?_
                  exact Nat.add_lt_add (Nat.sub_lt_sub_left hi (Nat.lt_succ_self i)) (Nat.sub_lt_sub_left hj (Nat.lt_succ_self j))
              · k_steps
                refine tail_any (m_isList (vs := ws) (n := n2) N4 (by walk_at "member")).typeIs slot_list_getitem.lookup (wpAny_getItem_list_out G.hh (m_isList (vs := ws) (n := n2) N4 (by walk_at "member")) (.inr (by rw [List.size_toArray]; lia)) (by lia) (by lia) fun h' tk' e hx => ?_) (by with_unfolding_all rfl)
                refine diff_raise (c := ⟨i + 1, j + 1, vs, ms, zs, ns, k1, k2, _, _, sl⟩) G Fs (hL9' _ _) ⟨F4, N4, by with_unfolding_all exact Eq.refl (some _), by with_unfolding_all exact Eq.refl (some _), by with_unfolding_all exact Eq.refl (some _), by with_unfolding_all exact Eq.refl (some _), by with_unfolding_all exact Eq.refl (some _), by with_unfolding_all exact Eq.refl (some _), q1, q2, by show i + 1 ≤ _; lia, by show j + 1 ≤ _; lia, d_end (.inr (by show ys.length ≤ j + 1; lia)) q5', by show ms.length ≤ i + 1; lia, by show ns.length ≤ j + 1; lia⟩ hx rfl
          · k_steps
            refine tail_any (m_isList (vs := us) (n := n1) N3 (by walk_at "member")).typeIs slot_list_getitem.lookup (wpAny_getItem_list_out G.hh (m_isList (vs := us) (n := n1) N3 (by walk_at "member")) (.inr (by rw [List.size_toArray]; lia)) (by lia) (by lia) fun h' tk' e hx => ?_) (by with_unfolding_all rfl)
            refine fin_enter (s' := { s with heap := h', toks := tk' }) (new := (un, lst zs k2) :: (mi, lst vs k1) :: news) (Around.frames_deeper G.frames) (frs_slots Fs sl) hx F3 N3 (hL9' _ _) ?_ rfl
            intro h5 T oe oT sl5 HH F5 N5 hne5 hTe5
            dsimp only
            k_steps
            (intro stop9; clear stop9)
            rename_i h6 F6 N6
            obtain ⟨vX, hXd, hX1, hX2⟩ := HH.data
            refine wpAny_passesOwnAt (by passes_own) ?_
            refine while0 (by passes_own) ?_
            by_cases hj2 : j + 1 < ys.length
            · k_steps
              · rw [show ((j : Int) + 1).toNat = j + 1 by lia, Int.toNat_natCast]
                exact d_next hs2 hj2
              · (try k_unfold); (try dsimp only)
                refine fin_pass (s := ⟨h6, _, _, _, _⟩) (P := fun x s₂ => DRaise h₀ L' L oL s l1 l2 mi un news xs ys x s₂) HH F6 N6 (fun p hp => ?_) hTe5 fun h7 H => ⟨⟨i + 1, j + 1, vs, ms, zs, ns, k1, k2, _, _, sl5⟩, _, h7, _, e, rfl, rfl, H, by with_unfolding_all exact Eq.refl (some _), by with_unfolding_all exact Eq.refl (some _), by with_unfolding_all exact Eq.refl (some _), by with_unfolding_all exact Eq.refl (some _), by with_unfolding_all exact Eq.refl (some _), by with_unfolding_all exact Eq.refl (some _), q1, q2, by show i + 1 ≤ _; lia, by show j + 1 ≤ _; lia, d_end (.inl (by show xs.length ≤ i + 1; lia)) q5', by show ms.length ≤ i + 1; lia, by show ns.length ≤ j + 1; lia⟩
                rcases List.mem_append.mp hp with hp | hp
                · exact (hne5 p (List.mem_append_left _ hp)).1
                · rw [List.mem_singleton.mp hp]
                  exact (hne5 (L, _) (List.mem_append_right _ List.mem_cons_self)).1
            · k_steps
              refine tail_any (m_isList (vs := ws) (n := n2) N6 (by walk_at "member")).typeIs slot_list_getitem.lookup (item_out_chained (X := e) (oX := oe) (vX := vX) rfl (N6 (e, oe) List.mem_cons_self).1 hXd hX2 (m_isList (vs := ws) (n := n2) N6 (by walk_at "member")) (by rw [List.size_toArray]; lia) (by lia) fun h' tk' e' hx' => ?_) (by with_unfolding_all rfl)
              refine diff_chain (A := A) (c := ⟨i + 1, j + 1, vs, ms, zs, ns, k1, k2, _, _, sl5⟩) (Around.frames_deeper G.frames) Fs (hL9' _ _) ⟨F6, News.sub N6 (fun p hp => List.mem_cons_of_mem _ (List.mem_cons_of_mem _ hp)), by with_unfolding_all exact Eq.refl (some _), by with_unfolding_all exact Eq.refl (some _), by with_unfolding_all exact Eq.refl (some _), by with_unfolding_all exact Eq.refl (some _), by with_unfolding_all exact Eq.refl (some _), by with_unfolding_all exact Eq.refl (some _), q1, q2, by show i + 1 ≤ _; lia, by show j + 1 ≤ _; lia, d_end (.inl (by show xs.length ≤ i + 1; lia)) q5', by show ms.length ≤ i + 1; lia, by show ns.length ≤ j + 1; lia⟩ hx' rfl
      · k_steps
        rename_i h3 F3 N3
        refine tail_any (m_isList (vs := ws) (n := n2) N3 (by walk_at "member")).typeIs slot_list_getitem.lookup (wpAny_getItem_list_out G.hh (m_isList (vs := ws) (n := n2) N3 (by walk_at "member")) (.inr (by rw [List.size_toArray]; lia)) (by lia) (by lia) fun h' tk' e hx => ?_) (by with_unfolding_all rfl)
        refine diff_raise (c := ⟨i, j, vs, ms, zs, ns, k1, k2, t1, t2, sl⟩) G Fs hL9 ⟨F3, N3, by with_unfolding_all exact Eq.refl (some _), by with_unfolding_all exact Eq.refl (some _), by with_unfolding_all exact Eq.refl (some _), by with_unfolding_all exact Eq.refl (some _), by with_unfolding_all exact Eq.refl (some _), by with_unfolding_all exact Eq.refl (some _), q1, q2, q3, q4, ?_, q6, q7⟩ hx rfl
        have e9 : ys.drop j = [] := List.drop_eq_nil_of_le (by lia)
        rw [e9, sdiff_nil] at q5
        rw [e9]
        exact q5
    · k_steps
      refine tail_any (m_isList (vs := us) (n := n1) N2 (by walk_at "member")).typeIs slot_list_getitem.lookup (wpAny_getItem_list_out G.hh (m_isList (vs := us) (n := n1) N2 (by walk_at "member")) (.inr (by rw [List.size_toArray]; lia)) (by lia) (by lia) fun h' tk' e hx => ?_) (by with_unfolding_all rfl)
      refine diff_raise (c := ⟨i, j, vs, ms, zs, ns, k1, k2, t1, t2, sl⟩) G Fs hL9 ⟨F2, N2, by with_unfolding_all exact Eq.refl (some _), by with_unfolding_all exact Eq.refl (some _), by with_unfolding_all exact Eq.refl (some _), by with_unfolding_all exact Eq.refl (some _), by with_unfolding_all exact Eq.refl (some _), by with_unfolding_all exact Eq.refl (some _), q1, q2, q3, q4, ?_, q6, q7⟩ hx rfl
      have e9 : xs.drop i = [] := List.drop_eq_nil_of_le (by lia)
      rw [e9, sdiff_nil_left] at q5
      rw [e9]
      exact q5
  · intro e9 s9 HH
    refine cps fun P9 k9 => ?_
    obtain ⟨c, m', h5, tk5, x, rfl, rfl, H, m1, m2, m3, m4, m5, m6, p1, p2, p3, p4, p5, p6, p7⟩ := HH
    refine k9 ?_
    clear k9 P9
    have hm : m' = fun z => if z = Str.ofString "i" then some (.int (c.i : Nat) c.t1) else if z = Str.ofString "j" then some (.int (c.j : Nat) c.t2) else if z = Str.ofString "expected" then some (.ref l1) else if z = Str.ofString "actual" then some (.ref l2) else if z = Str.ofString "missing" then some (.ref mi) else if z = Str.ofString "unexpected" then some (.ref un) else m' z := by
      funext z
      split
      · rename_i q; rw [q]; exact m5
      split
      · rename_i q; rw [q]; exact m6
      split
      · rename_i q; rw [q]; exact m1
      split
      · rename_i q; rw [q]; exact m2
      split
      · rename_i q; rw [q]; exact m3
      split
      · rename_i q; rw [q]; exact m4
      · rfl
    rw [hm] at H
    have H2 := TT.HeldNA.held H
    k_steps
    rename_i h6 F6 N6
    refine m_slice (s := ⟨_, _, _, _, _⟩) (vs := us) (ns := xs) (n := n1) F6 N6 (by walk_at "member") (by assumption) (by lia) ?_ (by with_unfolding_all rfl) (by intro _; with_unfolding_all rfl)
    intro D7 h7 zs7 hz7 F7 N7 hlt7
    have g1 := hz7.length
    have g2 := p1.length
    have g3 := p2.length
    rw [List.length_drop] at g1
    have hD7 : D7 ≠ mi := Nat.ne_of_gt (hlt7 (mi, _) (List.mem_cons_of_mem _ List.mem_cons_self))
    have hD7u : un ≠ mi := Nat.ne_of_gt l1n.1
    k_steps
    (intro stop9; clear stop9)
    refine' m_extend (vs := c.vs) (zs := zs7) (n := c.k1) (n2 := 0) F7 N7 (by walk_at "member") (by walk_at "member") hD7 (by lia) ?_
    intro h8 k8 F8 N8
    have N9 : News h₀ L' h8 ((un, lst c.ys c.k2) :: (mi, lst (c.vs ++ zs7) k8) :: (news ++ [(L, { oL with slots := c.sl })])) := by
      refine News.sub N8 fun p hp => ?_
      rcases List.mem_cons.mp hp with rfl | hp
      · exact mem_put (List.mem_cons_of_mem _ List.mem_cons_self) hD7u
      rcases List.mem_cons.mp hp with rfl | hp
      · exact put_mem
      refine mem_put (List.mem_cons_of_mem _ (List.mem_cons_of_mem _ (List.mem_cons_of_mem _ hp))) ?_
      rcases List.mem_append.mp hp with hp | hp
      · exact Nat.ne_of_lt (hltm p (List.mem_append_left _ hp))
      · rw [List.mem_singleton.mp hp]
        exact Nat.ne_of_lt (hltm (L, oL) (List.mem_append_right _ List.mem_cons_self))
    clear N8 N7 F7
    k_steps
    refine m_slice (s := ⟨_, _, _, _, _⟩) (vs := ws) (ns := ys) (n := n2) F8 N9 (by walk_at "member") (by assumption) (by lia) ?_ (by with_unfolding_all rfl) (by intro _; with_unfolding_all rfl)
    intro D10 h10 zs10 hz10 F10 N10 hlt10
    have g4 := hz10.length
    rw [List.length_drop] at g4
    have hD10 : D10 ≠ un := Nat.ne_of_gt (hlt10 (un, _) List.mem_cons_self)
    k_steps
    (intro stop9; clear stop9)
    refine' m_extend (vs := c.ys) (zs := zs10) (n := c.k2) (n2 := 0) F10 N10 (by walk_at "member") (by walk_at "member") hD10 (by lia) ?_
    intro h11 k11 F11 N11
    have N12 : News h₀ L' h11 ((un, lst (c.ys ++ zs10) k11) :: (mi, lst (c.vs ++ zs7) k8) :: (news ++ [(L, { oL with slots := c.sl })])) := by
      refine News.sub N11 fun p hp => ?_
      rcases List.mem_cons.mp hp with rfl | hp
      · exact put_mem
      refine mem_put (List.mem_cons_of_mem _ (List.mem_cons_of_mem _ hp)) ?_
      rcases List.mem_cons.mp hp with rfl | hp
      · exact hD7u.symm
      rcases List.mem_append.mp hp with hp | hp
      · exact Nat.ne_of_lt (Nat.lt_trans (hltm p (List.mem_append_left _ hp)) l1n.1)
      · rw [List.mem_singleton.mp hp]
        exact Nat.ne_of_lt (Nat.lt_trans (hltm (L, oL) (List.mem_append_right _ List.mem_cons_self)) l1n.1)
    clear N11 N10 F10
    k_steps
    rename_i D13 h13 F13 N13 l13
    have er : sdiff xs ys = (c.ms ++ xs.drop c.i, c.ns ++ ys.drop c.j) := p5.symm
    refine OutE.of (new := (D13, tup [.ref mi, .ref un]) :: (mi, lst (c.vs ++ zs7) k8) :: (un, lst (c.ys ++ zs10) k11) :: news) (sl := c.sl) (F13) (News.sub N13 ?_) ?_ (fun F4 N4 => hret D13 mi un _ _ k8 k11 _ _ F4 N4 (fun p hp => hltm p (List.mem_append_left _ hp)) l1n.1 l13.1 ?_ ?_)
    · exact all_cons (List.mem_cons_self) (all_cons (List.mem_cons_of_mem _ (List.mem_cons_of_mem _ List.mem_cons_self)) (all_cons (List.mem_cons_of_mem _ List.mem_cons_self) (fun p hp => List.mem_cons_of_mem _ (List.mem_cons_of_mem _ (List.mem_cons_of_mem _ hp)))))
    · have hLm : L < mi := hltm (L, oL) (List.mem_append_right _ List.mem_cons_self)
      exact all_cons (Nat.ne_of_gt (Nat.lt_trans (Nat.lt_trans hLm l1n.1) l13.1)) (all_cons (Nat.ne_of_gt hLm) (all_cons (Nat.ne_of_gt (Nat.lt_trans hLm l1n.1)) (fun p hp => hnL p hp)))
    · rw [er]; exact p1.append hz7
    · rw [er]; exact p2.append hz10)
end
/-- the figures: rising, below 10, at least two -/
structure Figs (xs : List Nat) : Prop where
  two : 2 ≤ xs.length
  lt : ∀ x ∈ xs, x < 10
  up : xs.Pairwise (· < ·)
theorem Figs.getD_mem {xs : List Nat} {k : Nat} (h : k < xs.length) : xs.getD k 0 ∈ xs := by
  have : xs.getD k 0 = xs[k] := by simp [List.getD, List.getElem?_eq_getElem h]
  rw [this]; exact List.getElem_mem _
theorem Figs.mono {xs : List Nat} (H : Figs xs) {i j : Nat} (hij : i < j) (hj : j < xs.length) : xs.getD i 0 < xs.getD j 0 := by
  have e1 : xs.getD i 0 = xs[i] := by simp [List.getD, List.getElem?_eq_getElem (Nat.lt_trans hij hj)]
  have e2 : xs.getD j 0 = xs[j] := by simp [List.getD, List.getElem?_eq_getElem hj]
  rw [e1, e2]
  exact (List.pairwise_iff_getElem.mp H.up) i j _ _ hij
theorem Figs.idx {xs : List Nat} {d : Nat} (hd : d ∈ xs) : xs.idxOf d < xs.length ∧ xs.getD (xs.idxOf d) 0 = d := by
  have h := List.idxOf_lt_length_iff.mpr hd
  refine ⟨h, ?_⟩
  simp [List.getD, List.getElem?_eq_getElem h]
theorem Figs.idx_getD {xs : List Nat} (H : Figs xs) {k : Nat} (h : k < xs.length) : xs.idxOf (xs.getD k 0) = k := by
  obtain ⟨a, b⟩ := Figs.idx (Figs.getD_mem h)
  rcases Nat.lt_trichotomy (xs.idxOf (xs.getD k 0)) k with q | q | q
  · have := H.mono q h; (first | assumption | exact Nat.le_of_lt (by assumption) | exact Nat.le_trans (by assumption) (by assumption) | exact Nat.lt_of_lt_of_le (by assumption) (by assumption) | exact Nat.lt_of_le_of_lt (by assumption) (by assumption) | lia)
  · exact q
  · have := H.mono q a; (first | assumption | exact Nat.le_of_lt (by assumption) | exact Nat.le_trans (by assumption) (by assumption) | exact Nat.lt_of_lt_of_le (by assumption) (by assumption) | exact Nat.lt_of_le_of_lt (by assumption) (by assumption) | lia)
theorem Figs.least {xs : List Nat} (H : Figs xs) : (leastOf xs = 0 ∧ xs.getD 0 0 = 0 ∧ 0 ∈ xs) ∨ (leastOf xs = 1 ∧ 0 ∉ xs) := by
  cases xs with
  | nil => exact absurd H.two (by decide)
  | cons a r =>
    by_cases h : a = 0
    · subst h
      exact .inl ⟨rfl, rfl, List.mem_cons_self⟩
    · refine .inr ⟨if_neg h, fun q => ?_⟩
      rcases List.mem_cons.mp q with q | q
      · exact h q.symm
      · have := (List.pairwise_cons.mp H.up).1 0 q
        (first | assumption | exact Nat.le_of_lt (by assumption) | exact Nat.le_trans (by assumption) (by assumption) | exact Nat.lt_of_lt_of_le (by assumption) (by assumption) | exact Nat.lt_of_le_of_lt (by assumption) (by assumption) | lia)
section
variable {xs : List Nat} (H : Figs xs)
include H
theorem nth_parts {v : Nat} (hv : 0 < v) : nth (leastOf xs) xs v % 10 = xs.getD ((v - leastOf xs) % xs.length) 0 ∧ nth (leastOf xs) xs v / 10 = nth (leastOf xs) xs ((v - leastOf xs) / xs.length) := by
  have hr : (v - leastOf xs) % xs.length < xs.length := Nat.mod_lt _ (by have := H.two; (first | assumption | exact Nat.le_of_lt (by assumption) | exact Nat.le_trans (by assumption) (by assumption) | exact Nat.lt_of_lt_of_le (by assumption) (by assumption) | exact Nat.lt_of_le_of_lt (by assumption) (by assumption) | lia))
  have h9 := H.lt _ (Figs.getD_mem hr)
  rw [nth_step hv H.two]
  exact ⟨by rw [Nat.add_mul_mod_self_left]; exact Nat.mod_eq_of_lt h9, by rw [Nat.add_mul_div_left _ _ (by decide), Nat.div_eq_of_lt h9, Nat.zero_add]⟩
theorem nth_q {v : Nat} (hv : 0 < v) : (v - leastOf xs) / xs.length < v := by
  have h1 : (v - leastOf xs) / xs.length ≤ v / xs.length := Nat.div_le_div_right (Nat.sub_le _ _)
  have h2 : v / xs.length < v := Nat.div_lt_self hv H.two
  exact Nat.lt_of_le_of_lt h1 h2
theorem nth_mono : ∀ (v' v : Nat), v < v' → nth (leastOf xs) xs v < nth (leastOf xs) xs v' := by
  intro v'
  induction v' using Nat.strongRecOn with
  | _ v' ih =>
    intro v hlt
    have hv' : 0 < v' := by (first | assumption | exact Nat.le_of_lt (by assumption) | exact Nat.le_trans (by assumption) (by assumption) | exact Nat.lt_of_lt_of_le (by assumption) (by assumption) | exact Nat.lt_of_le_of_lt (by assumption) (by assumption) | lia)
    have hb := H.two
    have hr' : (v' - leastOf xs) % xs.length < xs.length := Nat.mod_lt _ (by (first | assumption | exact Nat.le_of_lt (by assumption) | exact Nat.le_trans (by assumption) (by assumption) | exact Nat.lt_of_lt_of_le (by assumption) (by assumption) | exact Nat.lt_of_le_of_lt (by assumption) (by assumption) | lia))
    obtain ⟨a, b⟩ := nth_parts H hv'
    have hq' := nth_q H hv'
    have hle := leastOf_le xs
    by_cases h0 : v = 0
    · subst h0
      rw [nth_zero]
      rcases H.least with ⟨e, e0, _⟩ | ⟨e, e0⟩
      · by_cases hq : (v' - leastOf xs) / xs.length = 0
        · have hr : 0 < (v' - leastOf xs) % xs.length := by
            have := Nat.div_add_mod (v' - leastOf xs) xs.length
            rw [hq, Nat.mul_zero] at this
            (first | assumption | exact Nat.le_of_lt (by assumption) | exact Nat.le_trans (by assumption) (by assumption) | exact Nat.lt_of_lt_of_le (by assumption) (by assumption) | exact Nat.lt_of_le_of_lt (by assumption) (by assumption) | lia)
          have := H.mono hr hr'
          (first | assumption | exact Nat.le_of_lt (by assumption) | exact Nat.le_trans (by assumption) (by assumption) | exact Nat.lt_of_lt_of_le (by assumption) (by assumption) | exact Nat.lt_of_le_of_lt (by assumption) (by assumption) | lia)
        · have := ih _ hq' 0 (Nat.pos_of_ne_zero hq)
          rw [nth_zero] at this
          (first | assumption | exact Nat.le_of_lt (by assumption) | exact Nat.le_trans (by assumption) (by assumption) | exact Nat.lt_of_lt_of_le (by assumption) (by assumption) | exact Nat.lt_of_le_of_lt (by assumption) (by assumption) | lia)
      · have h9 := Figs.getD_mem hr'
        have : xs.getD ((v' - leastOf xs) % xs.length) 0 ≠ 0 := fun q => e0 (q ▸ h9)
        (first | assumption | exact Nat.le_of_lt (by assumption) | exact Nat.le_trans (by assumption) (by assumption) | exact Nat.lt_of_lt_of_le (by assumption) (by assumption) | exact Nat.lt_of_le_of_lt (by assumption) (by assumption) | lia)
    · have hv : 0 < v := by (first | assumption | exact Nat.le_of_lt (by assumption) | exact Nat.le_trans (by assumption) (by assumption) | exact Nat.lt_of_lt_of_le (by assumption) (by assumption) | exact Nat.lt_of_le_of_lt (by assumption) (by assumption) | lia)
      obtain ⟨c, d⟩ := nth_parts H hv
      have hr : (v - leastOf xs) % xs.length < xs.length := Nat.mod_lt _ (by (first | assumption | exact Nat.le_of_lt (by assumption) | exact Nat.le_trans (by assumption) (by assumption) | exact Nat.lt_of_lt_of_le (by assumption) (by assumption) | exact Nat.lt_of_le_of_lt (by assumption) (by assumption) | lia))
      have hqq : (v - leastOf xs) / xs.length ≤ (v' - leastOf xs) / xs.length := Nat.div_le_div_right (Nat.sub_le_sub_right (by lia) _)
      rcases Nat.lt_or_eq_of_le hqq with q | q
      · have := ih _ hq' _ q
        lia
      · have e1 := Nat.div_add_mod (v - leastOf xs) xs.length
        have e2 := Nat.div_add_mod (v' - leastOf xs) xs.length
        rw [q] at e1 d
        have := H.mono (i := (v - leastOf xs) % xs.length) (j := (v' - leastOf xs) % xs.length) (by (first | assumption | exact Nat.le_of_lt (by assumption) | exact Nat.le_trans (by assumption) (by assumption) | exact Nat.lt_of_lt_of_le (by assumption) (by assumption) | exact Nat.lt_of_le_of_lt (by assumption) (by assumption) | lia)) hr'
        (first | assumption | exact Nat.le_of_lt (by assumption) | exact Nat.le_trans (by assumption) (by assumption) | exact Nat.lt_of_lt_of_le (by assumption) (by assumption) | exact Nat.lt_of_le_of_lt (by assumption) (by assumption) | lia)
theorem nth_ge (v : Nat) : v ≤ nth (leastOf xs) xs v := by
  induction v with
  | zero => exact Nat.zero_le _
  | succ v ih => exact Nat.succ_le_of_lt (Nat.lt_of_le_of_lt ih (nth_mono H (v + 1) v (Nat.lt_succ_self v)))
theorem nth_inj {v v' : Nat} (h : nth (leastOf xs) xs v = nth (leastOf xs) xs v') : v = v' := by
  rcases Nat.lt_trichotomy v v' with q | q | q
  · have := nth_mono H _ _ q; (first | assumption | exact Nat.le_of_lt (by assumption) | exact Nat.le_trans (by assumption) (by assumption) | exact Nat.lt_of_lt_of_le (by assumption) (by assumption) | exact Nat.lt_of_le_of_lt (by assumption) (by assumption) | lia)
  · exact q
  · have := nth_mono H _ _ q; (first | assumption | exact Nat.le_of_lt (by assumption) | exact Nat.le_trans (by assumption) (by assumption) | exact Nat.lt_of_lt_of_le (by assumption) (by assumption) | exact Nat.lt_of_le_of_lt (by assumption) (by assumption) | lia)
theorem nth_le_iff {v v' : Nat} : nth (leastOf xs) xs v ≤ nth (leastOf xs) xs v' ↔ v ≤ v' := by
  constructor
  · intro h
    rcases Nat.lt_or_ge v' v with q | q
    · have := nth_mono H _ _ q; (first | assumption | exact Nat.le_of_lt (by assumption) | exact Nat.le_trans (by assumption) (by assumption) | exact Nat.lt_of_lt_of_le (by assumption) (by assumption) | exact Nat.lt_of_le_of_lt (by assumption) (by assumption) | lia)
    · exact q
  · intro h
    rcases Nat.lt_or_eq_of_le h with q | q
    · exact Nat.le_of_lt (nth_mono H _ _ q)
    · rw [q]; exact Nat.le_refl _
theorem nth_lt (h8 : 8 ≤ xs.length) : ∀ (k v : Nat), v < 8 ^ k → nth (leastOf xs) xs v < 10 ^ k := by
  intro k
  induction k with
  | zero => intro v hv; have : v = 0 := by simpa using hv
            rw [this, nth_zero]; exact Nat.one_pos
  | succ k ih =>
    intro v hv
    by_cases h0 : v = 0
    · rw [h0, nth_zero]; exact Nat.pow_pos (by decide)
    · obtain ⟨a, b⟩ := nth_parts H (v := v) (by (first | assumption | exact Nat.le_of_lt (by assumption) | exact Nat.le_trans (by assumption) (by assumption) | exact Nat.lt_of_lt_of_le (by assumption) (by assumption) | exact Nat.lt_of_le_of_lt (by assumption) (by assumption) | lia))
      have h1 : (v - leastOf xs) / xs.length ≤ v / 8 := Nat.le_trans (Nat.div_le_div_right (Nat.sub_le _ _)) (Nat.div_le_div_left h8 (by decide))
      rw [Nat.pow_succ] at hv
      have := ih ((v - leastOf xs) / xs.length) (Nat.lt_of_le_of_lt h1 (Nat.div_lt_of_lt_mul (by rw [Nat.mul_comm]; exact hv)))
      rw [Nat.pow_succ]
      rw [← b] at this
      exact (Nat.div_lt_iff_lt_mul (by decide)).mp this
end
theorem digs_lt {p : Nat} (h : p < 10) : digs p = [p] := by
  have := (by decide +kernel : ∀ p : Fin 10, digs p.val = [p.val]) ⟨p, h⟩
  exact this
theorem digs_ge {p : Nat} (h : 10 ≤ p) : digs p = digs (p / 10) ++ [p % 10] := by
  unfold digs
  rw [Nat.toDigits_of_base_le (by decide) h, List.map_append]
  congr 1
  have := (by decide +kernel : ∀ p : Fin 10, (Nat.digitChar p.val).toNat - 48 = p.val) ⟨p % 10, Nat.mod_lt _ (by decide)⟩
  rw [List.map_singleton, this]
/-- a number all of whose figures are among xs is counted -/
theorem nth_val {xs : List Nat} (H : Figs xs) : ∀ p, (∀ d ∈ digs p, d ∈ xs) → nth (leastOf xs) xs (valOf xs (digs p)) = p ∧ leastOf xs ≤ valOf xs (digs p) := by
  intro p
  induction p using Nat.strongRecOn with
  | _ p ih =>
    intro hp
    have hb := H.two
    have hle := leastOf_le xs
    by_cases h : p < 10
    · rw [digs_lt h] at hp ⊢
      have hm : p ∈ xs := hp p List.mem_cons_self
      obtain ⟨a, b⟩ := Figs.idx hm
      have ev : valOf xs [p] = xs.idxOf p + leastOf xs := by unfold valOf; simp
      rw [ev]
      refine ⟨?_, by (first | assumption | exact Nat.le_of_lt (by assumption) | exact Nat.le_trans (by assumption) (by assumption) | exact Nat.lt_of_lt_of_le (by assumption) (by assumption) | exact Nat.lt_of_le_of_lt (by assumption) (by assumption) | lia)⟩
      by_cases h0 : xs.idxOf p + leastOf xs = 0
      · rw [h0, nth_zero]
        rcases H.least with ⟨e, e0, _⟩ | ⟨e, e0⟩
        · have : xs.idxOf p = 0 := by (first | assumption | exact Nat.le_of_lt (by assumption) | exact Nat.le_trans (by assumption) (by assumption) | exact Nat.lt_of_lt_of_le (by assumption) (by assumption) | exact Nat.lt_of_le_of_lt (by assumption) (by assumption) | lia)
          rw [this] at b
          (first | assumption | exact Nat.le_of_lt (by assumption) | exact Nat.le_trans (by assumption) (by assumption) | exact Nat.lt_of_lt_of_le (by assumption) (by assumption) | exact Nat.lt_of_le_of_lt (by assumption) (by assumption) | lia)
        · (first | assumption | exact Nat.le_of_lt (by assumption) | exact Nat.le_trans (by assumption) (by assumption) | exact Nat.lt_of_lt_of_le (by assumption) (by assumption) | exact Nat.lt_of_le_of_lt (by assumption) (by assumption) | lia)
      · rw [nth_step (by (first | assumption | exact Nat.le_of_lt (by assumption) | exact Nat.le_trans (by assumption) (by assumption) | exact Nat.lt_of_lt_of_le (by assumption) (by assumption) | exact Nat.lt_of_le_of_lt (by assumption) (by assumption) | lia)) hb, Nat.add_sub_cancel, Nat.mod_eq_of_lt a, Nat.div_eq_of_lt a, nth_zero, b]
        (first | assumption | exact Nat.le_of_lt (by assumption) | exact Nat.le_trans (by assumption) (by assumption) | exact Nat.lt_of_lt_of_le (by assumption) (by assumption) | exact Nat.lt_of_le_of_lt (by assumption) (by assumption) | lia)
    · have h10 : 10 ≤ p := by (first | assumption | exact Nat.le_of_lt (by assumption) | exact Nat.le_trans (by assumption) (by assumption) | exact Nat.lt_of_lt_of_le (by assumption) (by assumption) | exact Nat.lt_of_le_of_lt (by assumption) (by assumption) | lia)
      rw [digs_ge h10] at hp ⊢
      obtain ⟨i1, i2⟩ := ih (p / 10) (by (first | assumption | exact Nat.le_of_lt (by assumption) | exact Nat.le_trans (by assumption) (by assumption) | exact Nat.lt_of_lt_of_le (by assumption) (by assumption) | exact Nat.lt_of_le_of_lt (by assumption) (by assumption) | lia)) fun d hd => hp d (List.mem_append_left _ hd)
      obtain ⟨a, b⟩ := Figs.idx (hp (p % 10) (List.mem_append_right _ List.mem_cons_self))
      rw [valOf_snoc]
      have hpos : 0 < valOf xs (digs (p / 10)) := by
        rcases Nat.eq_zero_or_pos (valOf xs (digs (p / 10))) with q | q
        · rw [q, nth_zero] at i1; (first | assumption | exact Nat.le_of_lt (by assumption) | exact Nat.le_trans (by assumption) (by assumption) | exact Nat.lt_of_lt_of_le (by assumption) (by assumption) | exact Nat.lt_of_le_of_lt (by assumption) (by assumption) | lia)
        · exact q
      have h1 : 0 < valOf xs (digs (p / 10)) * xs.length := Nat.mul_pos hpos (by (first | assumption | exact Nat.le_of_lt (by assumption) | exact Nat.le_trans (by assumption) (by assumption) | exact Nat.lt_of_lt_of_le (by assumption) (by assumption) | exact Nat.lt_of_le_of_lt (by assumption) (by assumption) | lia))
      refine ⟨?_, by (first | assumption | exact Nat.le_of_lt (by assumption) | exact Nat.le_trans (by assumption) (by assumption) | exact Nat.lt_of_lt_of_le (by assumption) (by assumption) | exact Nat.lt_of_le_of_lt (by assumption) (by assumption) | lia)⟩
      rw [nth_step (by (first | assumption | exact Nat.le_of_lt (by assumption) | exact Nat.le_trans (by assumption) (by assumption) | exact Nat.lt_of_lt_of_le (by assumption) (by assumption) | exact Nat.lt_of_le_of_lt (by assumption) (by assumption) | lia)) hb, Nat.add_sub_cancel]
      have e1 : (valOf xs (digs (p / 10)) * xs.length + xs.idxOf (p % 10)) % xs.length = xs.idxOf (p % 10) := by
        rw [Nat.mul_comm, Nat.mul_add_mod, Nat.mod_eq_of_lt a]
      have e2 : (valOf xs (digs (p / 10)) * xs.length + xs.idxOf (p % 10)) / xs.length = valOf xs (digs (p / 10)) := by
        rw [Nat.mul_comm, Nat.mul_add_div (by (first | assumption | exact Nat.le_of_lt (by assumption) | exact Nat.le_trans (by assumption) (by assumption) | exact Nat.lt_of_lt_of_le (by assumption) (by assumption) | exact Nat.lt_of_le_of_lt (by assumption) (by assumption) | lia)), Nat.div_eq_of_lt a, Nat.add_zero]
      rw [e1, e2, b, i1]
      (first | assumption | exact Nat.le_of_lt (by assumption) | exact Nat.le_trans (by assumption) (by assumption) | exact Nat.lt_of_lt_of_le (by assumption) (by assumption) | exact Nat.lt_of_le_of_lt (by assumption) (by assumption) | lia)
theorem nth_digs {xs : List Nat} (H : Figs xs) : ∀ v, leastOf xs ≤ v → ∀ d ∈ digs (nth (leastOf xs) xs v), d ∈ xs := by
  intro v
  induction v using Nat.strongRecOn with
  | _ v ih =>
    intro hv d hd
    have hb := H.two
    by_cases h0 : v = 0
    · subst h0
      rw [nth_zero, digs_lt (by decide)] at hd
      rcases H.least with ⟨e, e0, e1⟩ | ⟨e, e0⟩
      · rw [List.mem_singleton.mp hd]; exact e1
      · (first | assumption | exact Nat.le_of_lt (by assumption) | exact Nat.le_trans (by assumption) (by assumption) | exact Nat.lt_of_lt_of_le (by assumption) (by assumption) | exact Nat.lt_of_le_of_lt (by assumption) (by assumption) | lia)
    · have hr : (v - leastOf xs) % xs.length < xs.length := Nat.mod_lt _ (by (first | assumption | exact Nat.le_of_lt (by assumption) | exact Nat.le_trans (by assumption) (by assumption) | exact Nat.lt_of_lt_of_le (by assumption) (by assumption) | exact Nat.lt_of_le_of_lt (by assumption) (by assumption) | lia))
      have hm := Figs.getD_mem hr
      obtain ⟨a, b⟩ := nth_parts H (v := v) (by (first | assumption | exact Nat.le_of_lt (by assumption) | exact Nat.le_trans (by assumption) (by assumption) | exact Nat.lt_of_lt_of_le (by assumption) (by assumption) | exact Nat.lt_of_le_of_lt (by assumption) (by assumption) | lia))
      by_cases h : nth (leastOf xs) xs v < 10
      · rw [digs_lt h] at hd
        rw [List.mem_singleton.mp hd]
        rw [Nat.mod_eq_of_lt h] at a
        rw [a]; exact hm
      · rw [digs_ge (by (first | assumption | exact Nat.le_of_lt (by assumption) | exact Nat.le_trans (by assumption) (by assumption) | exact Nat.lt_of_lt_of_le (by assumption) (by assumption) | exact Nat.lt_of_le_of_lt (by assumption) (by assumption) | lia))] at hd
        rcases List.mem_append.mp hd with hd | hd
        · rw [b] at hd
          refine ih _ (nth_q H (by (first | assumption | exact Nat.le_of_lt (by assumption) | exact Nat.le_trans (by assumption) (by assumption) | exact Nat.lt_of_lt_of_le (by assumption) (by assumption) | exact Nat.lt_of_le_of_lt (by assumption) (by assumption) | lia))) ?_ d hd
          have h9 : 0 < nth (leastOf xs) xs ((v - leastOf xs) / xs.length) := by rw [← b]; (first | assumption | exact Nat.le_of_lt (by assumption) | exact Nat.le_trans (by assumption) (by assumption) | exact Nat.lt_of_lt_of_le (by assumption) (by assumption) | exact Nat.lt_of_le_of_lt (by assumption) (by assumption) | lia)
          have : (v - leastOf xs) / xs.length ≠ 0 := fun q => by rw [q, nth_zero] at h9; (first | assumption | exact Nat.le_of_lt (by assumption) | exact Nat.le_trans (by assumption) (by assumption) | exact Nat.lt_of_lt_of_le (by assumption) (by assumption) | exact Nat.lt_of_le_of_lt (by assumption) (by assumption) | lia)
          have h8 := leastOf_le xs
          have h7 := Nat.pos_of_ne_zero this
          exact Nat.le_trans h8 h7
        · rw [List.mem_singleton.mp hd, a]; exact hm
/-- two rising lists with the same members are the same -/
theorem rising_eq {α : Type} {le : α → α → Prop} (hirr : ∀ a, ¬ le a a) (htr : ∀ a b c, le a b → le b c → le a c) : ∀ {l1 l2 : List α}, l1.Pairwise le → l2.Pairwise le → (∀ x, x ∈ l1 ↔ x ∈ l2) → l1 = l2
  | [], [], _, _, _ => rfl
  | [], b :: r, _, _, h => absurd ((h b).mpr List.mem_cons_self) (by simp)
  | a :: r, [], _, _, h => absurd ((h a).mp List.mem_cons_self) (by simp)
  | a :: r, b :: r', h1, h2, h => by
    have p1 := List.pairwise_cons.mp h1
    have p2 := List.pairwise_cons.mp h2
    have e : a = b := by
      rcases List.mem_cons.mp ((h a).mp List.mem_cons_self) with q | q
      · exact q
      · rcases List.mem_cons.mp ((h b).mpr List.mem_cons_self) with q' | q'
        · exact q'.symm
        · exact absurd (htr _ _ _ (p1.1 b q') (p2.1 a q)) (hirr a)
    subst e
    rw [rising_eq hirr htr p1.2 p2.2 fun x => ?_]
    constructor
    · intro hx
      rcases List.mem_cons.mp ((h x).mp (List.mem_cons_of_mem _ hx)) with q | q
      · exact absurd (q ▸ p1.1 x hx) (hirr a)
      · exact q
    · intro hx
      rcases List.mem_cons.mp ((h x).mpr (List.mem_cons_of_mem _ hx)) with q | q
      · exact absurd (q ▸ p2.1 x hx) (hirr a)
      · exact q
section
variable {xs : List Nat} (H : Figs xs)
include H
theorem down_spec (low : Nat) : ∀ v, leastOf xs ≤ v → low ≤ nth (leastOf xs) xs v → low ≤ nth (leastOf xs) xs (down xs low v) ∧ ∀ u, leastOf xs ≤ u → low ≤ nth (leastOf xs) xs u → u ≤ v → down xs low v ≤ u := by
  intro v
  induction v with
  | zero => intro _ h; exact ⟨h, fun u _ _ _ => Nat.zero_le _⟩
  | succ v ih =>
    intro hv hl
    by_cases h : leastOf xs < v + 1 ∧ low ≤ nth (leastOf xs) xs v
    · have e : down xs low (v + 1) = down xs low v := down_step h.1 h.2
      rw [e]
      obtain ⟨a, b⟩ := ih (by (first | assumption | exact Nat.le_of_lt (by assumption) | exact Nat.le_trans (by assumption) (by assumption) | exact Nat.lt_of_lt_of_le (by assumption) (by assumption) | exact Nat.lt_of_le_of_lt (by assumption) (by assumption) | lia)) h.2
      refine ⟨a, fun u h1 h2 h3 => ?_⟩
      by_cases hu : u ≤ v
      · exact b u h1 h2 hu
      · exact Nat.le_trans (down_le xs low v) (by (first | assumption | exact Nat.le_of_lt (by assumption) | exact Nat.le_trans (by assumption) (by assumption) | exact Nat.lt_of_lt_of_le (by assumption) (by assumption) | exact Nat.lt_of_le_of_lt (by assumption) (by assumption) | lia))
    · have e : down xs low (v + 1) = v + 1 := down_stop h
      rw [e]
      refine ⟨hl, fun u h1 h2 h3 => ?_⟩
      rcases Nat.lt_or_ge u (v + 1) with q | q
      · exact absurd ⟨by (first | assumption | exact Nat.le_of_lt (by assumption) | exact Nat.le_trans (by assumption) (by assumption) | exact Nat.lt_of_lt_of_le (by assumption) (by assumption) | exact Nat.lt_of_le_of_lt (by assumption) (by assumption) | lia), Nat.le_trans h2 ((nth_le_iff H).mpr (by (first | assumption | exact Nat.le_of_lt (by assumption) | exact Nat.le_trans (by assumption) (by assumption) | exact Nat.lt_of_lt_of_le (by assumption) (by assumption) | exact Nat.lt_of_le_of_lt (by assumption) (by assumption) | lia)))⟩ h
      · exact q
theorem ups_spec (hi : Nat) : ∀ (k v : Nat), hi - nth (leastOf xs) xs v = k → (ups xs hi v).Pairwise (· < ·) ∧ ∀ p, p ∈ ups xs hi v ↔ ∃ u, v ≤ u ∧ nth (leastOf xs) xs u = p ∧ p < hi := by
  intro k
  induction k using Nat.strongRecOn with
  | _ k ih =>
    intro v hk
    by_cases h : nth (leastOf xs) xs v < hi
    · have hm := nth_mono H (v + 1) v (Nat.lt_succ_self v)
      obtain ⟨a, b⟩ := ih (hi - nth (leastOf xs) xs (v + 1)) (hk ▸ Nat.sub_lt_sub_left h hm) (v + 1) rfl
      rw [ups_step h hm]
      refine ⟨List.pairwise_cons.mpr ⟨fun p hp => ?_, a⟩, fun p => ?_⟩
      · obtain ⟨u, h1, h2, h3⟩ := (b p).mp hp
        rw [← h2]
        exact nth_mono H _ _ (by (first | assumption | exact Nat.le_of_lt (by assumption) | exact Nat.le_trans (by assumption) (by assumption) | exact Nat.lt_of_lt_of_le (by assumption) (by assumption) | exact Nat.lt_of_le_of_lt (by assumption) (by assumption) | lia))
      · rw [List.mem_cons, b]
        constructor
        · rintro (rfl | ⟨u, h1, h2, h3⟩)
          · exact ⟨v, Nat.le_refl _, rfl, h⟩
          · exact ⟨u, by (first | assumption | exact Nat.le_of_lt (by assumption) | exact Nat.le_trans (by assumption) (by assumption) | exact Nat.lt_of_lt_of_le (by assumption) (by assumption) | exact Nat.lt_of_le_of_lt (by assumption) (by assumption) | lia), h2, h3⟩
        · rintro ⟨u, h1, h2, h3⟩
          rcases Nat.lt_or_eq_of_le h1 with q | q
          · exact .inr ⟨u, q, h2, h3⟩
          · exact .inl (by rw [← h2, q])
    · rw [ups_stop h]
      refine ⟨List.Pairwise.nil, fun p => ?_⟩
      constructor
      · intro h9; cases h9
      · rintro ⟨u, h1, h2, h3⟩
        have := (nth_le_iff H).mpr h1
        (first | assumption | exact Nat.le_of_lt (by assumption) | exact Nat.le_trans (by assumption) (by assumption) | exact Nat.lt_of_lt_of_le (by assumption) (by assumption) | exact Nat.lt_of_le_of_lt (by assumption) (by assumption) | lia)
/-- the counted ones are the window's that are written with the figures alone -/
theorem counted_eq {around low : Nat} (hd : ∀ d ∈ digs around, d ∈ xs) (h1 : low ≤ around) : counted xs around low = (List.range' low 12).filter fun p => decide (∀ d ∈ digs p, d ∈ xs) := by
  obtain ⟨a, b⟩ := nth_val H around hd
  obtain ⟨c, d⟩ := down_spec H low _ b (by rw [a]; exact h1)
  obtain ⟨e, f⟩ := ups_spec H (low + 12) _ (down xs low (valOf xs (digs around))) rfl
  refine rising_eq (le := (· < ·)) (fun a => Nat.lt_irrefl a) (fun _ _ _ => Nat.lt_trans) e (List.Pairwise.filter _ (List.pairwise_lt_range' ..)) fun p => ?_
  unfold counted
  rw [f, List.mem_filter, List.mem_range'_1, decide_eq_true_eq]
  have hdg := down_ge xs low _ b
  constructor
  · rintro ⟨u, h2, rfl, h3⟩
    refine ⟨⟨Nat.le_trans c ((nth_le_iff H).mpr h2), h3⟩, nth_digs H u (by (first | assumption | exact Nat.le_of_lt (by assumption) | exact Nat.le_trans (by assumption) (by assumption) | exact Nat.lt_of_lt_of_le (by assumption) (by assumption) | exact Nat.lt_of_le_of_lt (by assumption) (by assumption) | lia))⟩
  · rintro ⟨⟨h2, h3⟩, h4⟩
    obtain ⟨a', b'⟩ := nth_val H p h4
    refine ⟨valOf xs (digs p), ?_, a', h3⟩
    by_cases q : valOf xs (digs p) ≤ valOf xs (digs around)
    · exact d _ b' (by rw [a']; exact h2) q
    · exact Nat.le_trans (down_le xs low _) (by (first | assumption | exact Nat.le_of_lt (by assumption) | exact Nat.le_trans (by assumption) (by assumption) | exact Nat.lt_of_lt_of_le (by assumption) (by assumption) | exact Nat.lt_of_le_of_lt (by assumption) (by assumption) | lia))
end
/-- an item's key -/
def K (zs : List Item) (i : Nat) : Int := (zs.getD i nil0).2
theorem K_def (zs : List Item) (i : Nat) : (zs.getD i nil0).2 = K zs i := rfl
theorem K_set {zs : List Item} {p : Nat} {x : Item} (hp : p < zs.length) (i : Nat) : K (zs.set p x) i = if i = p then x.2 else K zs i := by
  unfold K
  by_cases h : i = p
  · subst h
    rw [if_pos rfl, getD_set_self hp]
  · rw [if_neg h]
    congr 1
    simp only [List.getD, List.getElem?_set_ne (fun q => h q.symm)]
/-- from place k on every parent is at most its children -/
def HeapFrom (k : Nat) (zs : List Item) : Prop := ∀ i, 0 < i → i < zs.length → k ≤ (i - 1) / 2 → K zs ((i - 1) / 2) ≤ K zs i
abbrev keys (zs : List Item) : List Int := zs.map (·.2)
inductive Desc (k : Nat) : Nat → Prop
  | self : Desc k k
  | down {q : Nat} : k < q → Desc k ((q - 1) / 2) → Desc k q
theorem Desc.le {k q : Nat} (h : Desc k q) : k ≤ q := by cases h <;> (first | exact par_lt_len (by assumption) | exact par_lt (by assumption) | assumption | exact Nat.le_of_lt (by assumption) | exact Nat.lt_of_le_of_lt (by assumption) (by assumption) | lia)
theorem desc_zero : ∀ q, Desc 0 q := by
  intro q
  induction q using Nat.strongRecOn with
  | _ q ih =>
    by_cases h : q = 0
    · subst h; exact .self
    · exact .down (Nat.pos_of_ne_zero h) (ih _ (par_lt (Nat.pos_of_ne_zero h)))
theorem desc_up {k q : Nat} (h : Desc k q) (hk : k < q) : Desc k ((q - 1) / 2) := by
  cases h with
  | self => (first | exact par_lt_len (by assumption) | exact par_lt (by assumption) | assumption | exact Nat.le_of_lt (by assumption) | exact Nat.lt_of_le_of_lt (by assumption) (by assumption) | lia)
  | down _ h => exact h
/-- the hole's walk upwards makes a heap of it -/
theorem sd_heap {k : Nat} {x : Item} : ∀ (q : Nat) (zs : List Item), q < zs.length → Desc k q →
    (∀ i, 0 < i → i < zs.length → k ≤ (i - 1) / 2 → i ≠ q → K (zs.set q x) ((i - 1) / 2) ≤ K (zs.set q x) i) →
    (k < q → ∀ i, 0 < i → i < zs.length → (i - 1) / 2 = q → K zs ((q - 1) / 2) ≤ K zs i) → HeapFrom k (sd k x zs q) := by
  intro q
  induction q using Nat.strongRecOn with
  | _ q ih =>
    intro zs hq hD J1 J2
    by_cases h : k < q ∧ x.2 < (zs.getD ((q - 1) / 2) nil0).2
    · rw [sd_step h.1 h.2]
      have hx : x.2 < K zs ((q - 1) / 2) := h.2
      have hpD := desc_up hD h.1
      have hpk := hpD.le
      have hpq : (q - 1) / 2 < q := par_lt h.1
      have hlen : (zs.set q (zs.getD ((q - 1) / 2) nil0)).length = zs.length := List.length_set ..
      have KS : ∀ i, K (zs.set q (zs.getD ((q - 1) / 2) nil0)) i = if i = q then K zs ((q - 1) / 2) else K zs i := fun i => K_set hq i
      have J1' : ∀ i, 0 < i → i < zs.length → k ≤ (i - 1) / 2 → i ≠ q → (i - 1) / 2 ≠ q → K zs ((i - 1) / 2) ≤ K zs i := fun i a b c d e => by
        have := J1 i a b c d
        rw [K_set hq, K_set hq, if_neg d, if_neg e] at this
        exact this
      refine ih _ hpq _ (by rw [hlen]; exact par_lt_len hq) hpD (fun i a b c d => ?_) (fun hk i a b c => ?_)
      · rw [hlen] at b
        rw [K_set (p := (q - 1) / 2) (by rw [hlen]; exact par_lt_len hq), K_set (p := (q - 1) / 2) (by rw [hlen]; exact par_lt_len hq), KS, KS, if_neg d]
        by_cases e1 : i = q
        · subst e1
          rw [if_pos rfl, if_pos rfl]
          exact Int.le_of_lt hx
        · rw [if_neg e1]
          by_cases e2 : (i - 1) / 2 = (q - 1) / 2
          · rw [if_pos e2]
            have := J1' i a b c e1 (fun z => Nat.ne_of_lt hpq (e2.symm.trans z))
            rw [e2] at this
            exact Int.le_trans (Int.le_of_lt hx) this
          · rw [if_neg e2]
            by_cases e3 : (i - 1) / 2 = q
            · rw [if_pos e3]
              exact J2 h.1 i a b e3
            · rw [if_neg e3]
              exact J1' i a b c e1 e3
      · rw [hlen] at b
        have hpp := (desc_up hpD hk).le
        have hge : K zs (((q - 1) / 2 - 1) / 2) ≤ K zs ((q - 1) / 2) := J1' ((q - 1) / 2) (Nat.lt_of_le_of_lt (Nat.zero_le _) hk) (par_lt_len hq) hpp (Nat.ne_of_lt hpq) (Nat.ne_of_lt (Nat.lt_trans (par_lt hk) hpq))
        rw [KS, KS, if_neg (Nat.ne_of_lt (Nat.lt_trans (par_lt hk) hpq))]
        by_cases e1 : i = q
        · rw [if_pos e1]; exact hge
        · rw [if_neg e1]
          have := J1' i a b (by (first | exact par_lt_len (by assumption) | exact par_lt (by assumption) | assumption | exact Nat.le_of_lt (by assumption) | exact Nat.lt_of_le_of_lt (by assumption) (by assumption) | lia)) e1 (by (first | exact par_lt_len (by assumption) | exact par_lt (by assumption) | assumption | exact Nat.le_of_lt (by assumption) | exact Nat.lt_of_le_of_lt (by assumption) (by assumption) | lia))
          rw [c] at this
          exact Int.le_trans hge this
    · rw [sd_stop h]
      intro i a b c
      rw [List.length_set] at b
      by_cases e : i = q
      · subst e
        have hk : k < i := Nat.lt_of_le_of_lt c (par_lt a)
        have h2 : ¬ x.2 < K zs ((i - 1) / 2) := fun q => h ⟨hk, q⟩
        rw [K_set hq, K_set hq, if_pos rfl, if_neg (Nat.ne_of_lt (par_lt a))]
        exact Int.not_lt.mp h2
      · exact J1 i a b c e
theorem count_set2 {l : List Int} {a b : Nat} {x : Int} (ha : a < l.length) (hb : b < l.length) (hab : a ≠ b) : ((l.set a (l.getD b 0)).set b x).Perm (l.set a x) := by
  rw [List.perm_iff_count]
  intro z
  have eb : l.getD b 0 = l[b] := by simp [List.getD, List.getElem?_eq_getElem hb]
  rw [List.count_set (by rw [List.length_set]; exact hb), List.count_set ha, List.count_set ha, eb]
  have e2 : (l.set a l[b])[b]'(by rw [List.length_set]; exact hb) = l[b] := by rw [List.getElem_set_ne hab]
  rw [e2]
  have h1 : (if (l[a] == z) = true then 1 else 0) ≤ l.count z := by
    split
    · rename_i h
      rw [← LawfulBEq.eq_of_beq h]
      exact List.count_pos_iff.mpr (List.getElem_mem _)
    · exact Nat.zero_le _
  (first | exact par_lt_len (by assumption) | exact par_lt (by assumption) | assumption | exact Nat.le_of_lt (by assumption) | exact Nat.lt_of_le_of_lt (by assumption) (by assumption) | lia)
theorem keys_set (zs : List Item) (p : Nat) (x : Item) : keys (zs.set p x) = (keys zs).set p x.2 := List.map_set ..
theorem keys_getD (zs : List Item) (p : Nat) : (keys zs).getD p 0 = K zs p := by
  unfold K
  simp only [List.getD, List.getElem?_map]
  cases zs[p]? <;> rfl
theorem sd_perm {k : Nat} {x : Item} : ∀ (q : Nat) (zs : List Item), q < zs.length → (keys (sd k x zs q)).Perm ((keys zs).set q x.2) := by
  intro q
  induction q using Nat.strongRecOn with
  | _ q ih =>
    intro zs hq
    by_cases h : k < q ∧ x.2 < (zs.getD ((q - 1) / 2) nil0).2
    · rw [sd_step h.1 h.2]
      refine (ih _ (par_lt h.1) _ (by rw [List.length_set]; exact par_lt_len hq)).trans ?_
      rw [keys_set, K_def, ← keys_getD]
      exact count_set2 (by rw [List.length_map]; exact hq) (by rw [List.length_map]; exact par_lt_len hq) (Nat.ne_of_gt (par_lt h.1))
    · rw [sd_stop h, keys_set]
/-- the hole's walk downwards: all of it stays a heap, the hole ends at a leaf -/
theorem child_par {zs : List Item} {p : Nat} : (child zs p - 1) / 2 = p := by unfold child; split <;> (first | exact par_lt_len (by assumption) | exact par_lt (by assumption) | assumption | exact Nat.le_of_lt (by assumption) | exact Nat.lt_of_le_of_lt (by assumption) (by assumption) | lia)
theorem child_min {zs : List Item} {p i : Nat} (hi0 : 0 < i) (hi : i < zs.length) (hp : (i - 1) / 2 = p) : K zs (child zs p) ≤ K zs i := by
  have h12 : i = 2 * p + 1 ∨ i = 2 * p + 2 := by (first | exact par_lt_len (by assumption) | exact par_lt (by assumption) | assumption | exact Nat.le_of_lt (by assumption) | exact Nat.lt_of_le_of_lt (by assumption) (by assumption) | lia)
  unfold child
  split
  · rename_i h
    rcases h12 with rfl | rfl
    · exact Int.not_lt.mp h.2
    · exact Int.le_refl _
  · rename_i h
    rcases h12 with rfl | rfl
    · exact Int.le_refl _
    · have : ¬ ¬ (zs.getD (2 * p + 1) nil0).2 < (zs.getD (2 * p + 2) nil0).2 := fun q => h ⟨hi, q⟩
      exact Int.le_of_lt (Decidable.not_not.mp this)
theorem su_turn {k p : Nat} {zs : List Item} (hk : k ≤ p) (hp : p < zs.length) (hc : 2 * p + 1 < zs.length) (hH : ∀ i, 0 < i → i < zs.length → k ≤ (i - 1) / 2 → (i - 1) / 2 ≠ p ∨ p ≠ k → K zs ((i - 1) / 2) ≤ K zs i) : HeapFrom k (zs.set p (zs.getD (child zs p) nil0)) := by
  intro i a b c
  rw [List.length_set] at b
  have KS : ∀ i, K (zs.set p (zs.getD (child zs p) nil0)) i = if i = p then K zs (child zs p) else K zs i := fun i => K_set hp i
  rw [KS, KS]
  have hcl := child_lt (zs := zs) hc
  have hcp := child_pos (zs := zs) (pos := p)
  by_cases e1 : i = p
  · subst e1
    rw [if_pos rfl, if_neg (Nat.ne_of_lt (par_lt a))]
    have h1 := hH i a b c (.inl (Nat.ne_of_lt (par_lt a)))
    have h2 := hH (child zs i) (Nat.lt_of_le_of_lt (Nat.zero_le _) hcp) hcl (by rw [child_par]; exact hk) (.inr (fun z => by rw [← z] at c; exact Nat.lt_irrefl _ (Nat.lt_of_le_of_lt c (par_lt a))))
    rw [child_par] at h2
    exact Int.le_trans h1 h2
  · rw [if_neg e1]
    by_cases e2 : (i - 1) / 2 = p
    · rw [if_pos e2]
      exact child_min a b e2
    · rw [if_neg e2]
      exact hH i a b c (.inl e2)
theorem su_heap {k : Nat} : ∀ (n p : Nat) (zs : List Item), zs.length - p = n → p < zs.length → k ≤ p → (p ≠ k → HeapFrom k zs) → (p = k → HeapFrom (k + 1) zs) → Desc k p →
    ¬ 2 * (su zs p).2 + 1 < zs.length ∧ Desc k (su zs p).2 ∧ ((su zs p).2 ≠ k → HeapFrom k (su zs p).1) ∧ ((su zs p).2 = k → HeapFrom (k + 1) (su zs p).1) := by
  intro n
  induction n using Nat.strongRecOn with
  | _ n ih =>
    intro p zs hn hp hk h1 h2 hD
    by_cases hc : 2 * p + 1 < zs.length
    · rw [su_step hc]
      have hcl := child_lt (zs := zs) hc
      have hcp := child_pos (zs := zs) (pos := p)
      have hT : HeapFrom k (zs.set p (zs.getD (child zs p) nil0)) := su_turn hk hp hc fun i a b c d => by
        by_cases e : p = k
        · rcases d with d | d
          · exact h2 e i a b (Nat.lt_of_le_of_ne c (fun z => d (z.symm.trans e.symm)))
          · exact absurd e d
        · exact h1 e i a b c
      have hl : (zs.set p (zs.getD (child zs p) nil0)).length = zs.length := List.length_set ..
      have := ih (zs.length - child zs p) (hn ▸ child_step hc) (child zs p) (zs.set p (zs.getD (child zs p) nil0)) (by rw [hl]) (by rw [hl]; exact hcl) (Nat.le_trans hk (Nat.le_of_lt hcp)) (fun _ => hT) (fun e => absurd (e ▸ hcp) (Nat.not_lt.mpr hk)) (.down (Nat.lt_of_le_of_lt hk hcp) (by rw [child_par]; exact hD))
      rw [hl] at this
      exact this
    · rw [su_stop hc]
      exact ⟨hc, hD, h1, h2⟩
theorem su_perm {x : Int} : ∀ (n p : Nat) (zs : List Item), zs.length - p = n → p < zs.length → ((keys (su zs p).1).set (su zs p).2 x).Perm ((keys zs).set p x) := by
  intro n
  induction n using Nat.strongRecOn with
  | _ n ih =>
    intro p zs hn hp
    by_cases hc : 2 * p + 1 < zs.length
    · rw [su_step hc]
      have hcl := child_lt (zs := zs) hc
      have hcp := child_pos (zs := zs) (pos := p)
      refine (ih (zs.length - child zs p) (hn ▸ child_step hc) _ _ (by rw [List.length_set]) (by rw [List.length_set]; exact hcl)).trans ?_
      rw [keys_set, K_def, ← keys_getD]
      exact count_set2 (by rw [List.length_map]; exact hp) (by rw [List.length_map]; exact hcl) (Nat.ne_of_lt hcp)
    · rw [su_stop hc]
theorem sup_heap {k : Nat} {zs : List Item} (hk : k < zs.length) (h : HeapFrom (k + 1) zs) : HeapFrom k (sup zs k) := by
  obtain ⟨a, b, c, d⟩ := su_heap (k := k) _ k zs rfl hk (Nat.le_refl _) (fun e => absurd rfl e) (fun _ => h) .self
  obtain ⟨e, f, g, _⟩ := su_props _ zs k rfl hk
  unfold sup
  have hq : (su zs k).2 < (su zs k).1.length := by rw [e]; exact f
  refine sd_heap _ _ (by rw [List.length_set]; exact hq) b (fun i h1 h2 h3 h4 => ?_) (fun h1 i h2 h3 h4 => ?_)
  · rw [List.length_set, e] at h2
    rw [List.set_set, K_set hq, K_set hq, if_neg h4]
    have h9 : (i - 1) / 2 = (su zs k).2 → False := fun z => a (by have := Nat.div_add_mod (i - 1) 2; rw [z] at this; lia)
    have h5 : (i - 1) / 2 ≠ (su zs k).2 := h9
    rw [if_neg h5]
    by_cases h6 : (su zs k).2 = k
    · exact d h6 i h1 (by rw [e]; exact h2) (Nat.lt_of_le_of_ne h3 (fun z => h5 (z.symm.trans h6.symm)))
    · exact c h6 i h1 (by rw [e]; exact h2) h3
  · rw [List.length_set, e] at h3
    (first | exact par_lt_len (by assumption) | exact par_lt (by assumption) | assumption | exact Nat.le_of_lt (by assumption) | exact Nat.lt_of_le_of_lt (by assumption) (by assumption) | lia)
theorem sup_perm {k : Nat} {zs : List Item} (hk : k < zs.length) : (keys (sup zs k)).Perm (keys zs) := by
  obtain ⟨e, f, g, _⟩ := su_props _ zs k rfl hk
  unfold sup
  refine (sd_perm _ _ (by rw [List.length_set, e]; exact f)).trans ?_
  rw [keys_set, List.set_set]
  refine (su_perm _ k zs rfl hk).trans ?_
  have : (zs.getD k nil0).2 = (keys zs).getD k 0 := (keys_getD zs k).symm
  rw [this]
  have hk' : k < (keys zs).length := by rw [List.length_map]; exact hk
  have e3 : (keys zs).getD k 0 = (keys zs)[k] := by simp [List.getD, List.getElem?_eq_getElem hk']
  rw [e3, List.set_getElem_self]
theorem heap_nil : HeapFrom 0 [] := fun i _ h => absurd h (Nat.not_lt_zero _)
theorem hpush_heap {zs : List Item} {x : Item} (h : HeapFrom 0 zs) : HeapFrom 0 (hpush zs x) := by
  unfold hpush
  have hl : (zs ++ [x]).length = zs.length + 1 := by rw [List.length_append]; rfl
  have KA : ∀ i, i < zs.length → K (zs ++ [x]) i = K zs i := fun i hi => by
    unfold K
    simp only [List.getD, List.getElem?_append_left hi]
  refine sd_heap _ _ (by rw [hl]; exact Nat.lt_succ_self _) (desc_zero _) (fun i h1 h2 h3 h4 => ?_) (fun h1 i h2 h3 h4 => by (first | exact par_lt_len (by assumption) | exact par_lt (by assumption) | assumption | exact Nat.le_of_lt (by assumption) | exact Nat.lt_of_le_of_lt (by assumption) (by assumption) | lia))
  rw [hl] at h2
  rw [K_set (by (first | exact par_lt_len (by assumption) | exact par_lt (by assumption) | assumption | exact Nat.le_of_lt (by assumption) | exact Nat.lt_of_le_of_lt (by assumption) (by assumption) | lia)), K_set (by (first | exact par_lt_len (by assumption) | exact par_lt (by assumption) | assumption | exact Nat.le_of_lt (by assumption) | exact Nat.lt_of_le_of_lt (by assumption) (by assumption) | lia)), if_neg h4, if_neg (by (first | exact par_lt_len (by assumption) | exact par_lt (by assumption) | assumption | exact Nat.le_of_lt (by assumption) | exact Nat.lt_of_le_of_lt (by assumption) (by assumption) | lia)), KA _ (by (first | exact par_lt_len (by assumption) | exact par_lt (by assumption) | assumption | exact Nat.le_of_lt (by assumption) | exact Nat.lt_of_le_of_lt (by assumption) (by assumption) | lia)), KA _ (by (first | exact par_lt_len (by assumption) | exact par_lt (by assumption) | assumption | exact Nat.le_of_lt (by assumption) | exact Nat.lt_of_le_of_lt (by assumption) (by assumption) | lia))]
  exact h i h1 (by (first | exact par_lt_len (by assumption) | exact par_lt (by assumption) | assumption | exact Nat.le_of_lt (by assumption) | exact Nat.lt_of_le_of_lt (by assumption) (by assumption) | lia)) h3
theorem hpush_perm {zs : List Item} {x : Item} : (keys (hpush zs x)).Perm (x.2 :: keys zs) := by
  unfold hpush
  refine (sd_perm _ _ (by rw [List.length_append]; simp)).trans ?_
  have : (keys (zs ++ [x])).set zs.length x.2 = keys zs ++ [x.2] := by
    show (List.map _ (zs ++ [x])).set _ _ = _
    rw [List.map_append]
    have e : zs.length = (zs.map (·.2)).length + 0 := by rw [List.length_map]; rfl
    rw [e, List.set_append_right _ _ (by (first | exact par_lt_len (by assumption) | exact par_lt (by assumption) | assumption | exact Nat.le_of_lt (by assumption) | exact Nat.lt_of_le_of_lt (by assumption) (by assumption) | lia))]
    simp
  rw [this]
  exact List.perm_append_comm
theorem hpush_mem {zs : List Item} {x : Item} : ∀ z ∈ hpush zs x, z = x ∨ z ∈ zs := fun z hz => by
  rcases sd_mem _ _ (by rw [List.length_append]; simp) z hz with h | h
  · exact .inl h
  · rcases List.mem_append.mp h with h | h
    · exact .inr h
    · exact .inl (List.mem_singleton.mp h)
theorem hfy_heap : ∀ (k : Nat) (zs : List Item), k ≤ zs.length → HeapFrom k zs → HeapFrom 0 (hfy k zs) ∧ (keys (hfy k zs)).Perm (keys zs) ∧ ∀ z ∈ hfy k zs, z ∈ zs
  | 0, zs, _, h => ⟨h, .refl _, fun _ hz => hz⟩
  | k + 1, zs, hk, h => by
    have hk' : k < zs.length := by (first | exact par_lt_len (by assumption) | exact par_lt (by assumption) | assumption | exact Nat.le_of_lt (by assumption) | exact Nat.lt_of_le_of_lt (by assumption) (by assumption) | lia)
    obtain ⟨a, b, c⟩ := hfy_heap k (sup zs k) (by rw [sup_length hk']; (first | exact par_lt_len (by assumption) | exact par_lt (by assumption) | assumption | exact Nat.le_of_lt (by assumption) | exact Nat.lt_of_le_of_lt (by assumption) (by assumption) | lia)) (sup_heap hk' h)
    exact ⟨a, b.trans (sup_perm hk'), fun z hz => sup_mem hk' z (c z hz)⟩
theorem heap_half (zs : List Item) : HeapFrom (zs.length / 2) zs := fun i h1 h2 h3 => by (first | exact par_lt_len (by assumption) | exact par_lt (by assumption) | assumption | exact Nat.le_of_lt (by assumption) | exact Nat.lt_of_le_of_lt (by assumption) (by assumption) | lia)
/-- a heap's first item has the least key -/
theorem heap_min {zs : List Item} (h : HeapFrom 0 zs) : ∀ i, i < zs.length → K zs 0 ≤ K zs i := by
  intro i
  induction i using Nat.strongRecOn with
  | _ i ih =>
    intro hi
    by_cases h0 : i = 0
    · subst h0; exact Int.le_refl _
    · exact Int.le_trans (ih ((i - 1) / 2) (by (first | exact par_lt_len (by assumption) | exact par_lt (by assumption) | assumption | exact Nat.le_of_lt (by assumption) | exact Nat.lt_of_le_of_lt (by assumption) (by assumption) | lia)) (by (first | exact par_lt_len (by assumption) | exact par_lt (by assumption) | assumption | exact Nat.le_of_lt (by assumption) | exact Nat.lt_of_le_of_lt (by assumption) (by assumption) | lia))) (h i (by (first | exact par_lt_len (by assumption) | exact par_lt (by assumption) | assumption | exact Nat.le_of_lt (by assumption) | exact Nat.lt_of_le_of_lt (by assumption) (by assumption) | lia)) hi (Nat.zero_le _))
theorem heap_min_mem {zs : List Item} (h : HeapFrom 0 zs) {z : Item} (hz : z ∈ zs) : K zs 0 ≤ z.2 := by
  obtain ⟨i, hi, e⟩ := List.getElem_of_mem hz
  have := heap_min h i hi
  have e2 : K zs i = z.2 := by unfold K; rw [← e]; simp [List.getD, List.getElem?_eq_getElem hi]
  (first | exact par_lt_len (by assumption) | exact par_lt (by assumption) | assumption | exact Nat.le_of_lt (by assumption) | exact Nat.lt_of_le_of_lt (by assumption) (by assumption) | lia)
theorem heap_one {zs : List Item} (x : Item) (h : HeapFrom 0 zs) : HeapFrom (0 + 1) (zs.set 0 x) := fun i h1 h2 h3 => by
  rw [List.length_set] at h2
  rw [K_set (by (first | exact par_lt_len (by assumption) | exact par_lt (by assumption) | assumption | exact Nat.le_of_lt (by assumption) | exact Nat.lt_of_le_of_lt (by assumption) (by assumption) | lia)), K_set (by (first | exact par_lt_len (by assumption) | exact par_lt (by assumption) | assumption | exact Nat.le_of_lt (by assumption) | exact Nat.lt_of_le_of_lt (by assumption) (by assumption) | lia)), if_neg (by (first | exact par_lt_len (by assumption) | exact par_lt (by assumption) | assumption | exact Nat.le_of_lt (by assumption) | exact Nat.lt_of_le_of_lt (by assumption) (by assumption) | lia)), if_neg (by (first | exact par_lt_len (by assumption) | exact par_lt (by assumption) | assumption | exact Nat.le_of_lt (by assumption) | exact Nat.lt_of_le_of_lt (by assumption) (by assumption) | lia))]
  exact h i h1 h2 (Nat.zero_le _)
theorem heap_init {ys : List Item} {y : Item} (h : HeapFrom 0 (ys ++ [y])) : HeapFrom 0 ys := fun i h1 h2 h3 => by
  have KA : ∀ i, i < ys.length → K (ys ++ [y]) i = K ys i := fun i hi => by
    unfold K
    simp only [List.getD, List.getElem?_append_left hi]
  have := h i h1 (by rw [List.length_append]; (first | exact par_lt_len (by assumption) | exact par_lt (by assumption) | assumption | exact Nat.le_of_lt (by assumption) | exact Nat.lt_of_le_of_lt (by assumption) (by assumption) | lia)) h3
  rw [KA _ (by (first | exact par_lt_len (by assumption) | exact par_lt (by assumption) | assumption | exact Nat.le_of_lt (by assumption) | exact Nat.lt_of_le_of_lt (by assumption) (by assumption) | lia)), KA _ h2] at this
  exact this
structure PopOk (zs : List Item) (x : Item) (zs' : List Item) : Prop where
  heap : HeapFrom 0 zs'
  perm : (x.2 :: keys zs').Perm (keys zs)
  mem : x ∈ zs
  sub : ∀ z ∈ zs', z ∈ zs
  min : ∀ z ∈ zs, x.2 ≤ z.2
theorem cons_set0 {l : List Int} {y : Int} (h : 0 < l.length) : (l.getD 0 0 :: l.set 0 y).Perm (y :: l) := by
  cases l with
  | nil => exact absurd h (by decide)
  | cons a r => exact List.Perm.swap ..
theorem hpop_ok {zs : List Item} (h : HeapFrom 0 zs) (hne : zs ≠ []) : PopOk zs (hpop zs).1 (hpop zs).2 := by
  obtain ⟨ys, y, rfl⟩ : ∃ ys y, zs = ys ++ [y] := ⟨zs.dropLast, zs.getLast hne, (List.dropLast_concat_getLast hne).symm⟩
  by_cases h0 : 0 < ys.length
  · rw [hpop_two h0]
    have hl : 0 < (ys.set 0 y).length := by rw [List.length_set]; exact h0
    have hH := heap_init h
    have e0 : K (ys ++ [y]) 0 = K ys 0 := by unfold K; simp only [List.getD, List.getElem?_append_left h0]
    have m0 : ys.getD 0 nil0 ∈ ys ++ [y] := List.mem_append_left _ (getD_mem h0)
    refine ⟨sup_heap hl (heap_one y hH), ?_, m0, fun z hz => ?_, fun z hz => ?_⟩
    · show ((ys.getD 0 nil0).2 :: keys (sup (ys.set 0 y) 0)).Perm _
      refine (List.Perm.cons _ (sup_perm hl)).trans ?_
      rw [keys_set, show (ys.getD 0 nil0).2 = (keys ys).getD 0 0 from (keys_getD ys 0).symm]
      refine (cons_set0 (by rw [List.length_map]; exact h0)).trans ?_
      have e9 : keys (ys ++ [y]) = keys ys ++ [y.2] := List.map_append ..
      rw [e9]
      exact (List.perm_append_comm (l₁ := [y.2]))
    · have := sup_mem hl z hz
      rcases List.mem_or_eq_of_mem_set this with q | q
      · exact List.mem_append_left _ q
      · exact List.mem_append_right _ (List.mem_singleton.mpr q)
    · have := heap_min_mem h hz
      rw [e0] at this
      exact this
  · have : ys = [] := List.eq_nil_of_length_eq_zero (by (first | exact par_lt_len (by assumption) | exact par_lt (by assumption) | assumption | exact Nat.le_of_lt (by assumption) | exact Nat.lt_of_le_of_lt (by assumption) (by assumption) | lia))
    subst this
    exact ⟨heap_nil, .refl _, List.mem_cons_self, fun z hz => by simp [hpop_one] at hz, fun z hz => by rw [List.mem_singleton.mp hz]; exact Int.le_refl _⟩
theorem hpp_ok {zs : List Item} {x : Item} (h : HeapFrom 0 zs) (hne : zs ≠ []) (hx : K zs 0 < x.2) : HeapFrom 0 (hpp zs x).2 ∧ ((hpp zs x).1.2 :: keys (hpp zs x).2).Perm (x.2 :: keys zs) ∧ (hpp zs x).1 ∈ zs ∧ (∀ z ∈ (hpp zs x).2, z = x ∨ z ∈ zs) ∧ (∀ z ∈ zs, (hpp zs x).1.2 ≤ z.2) := by
  have h0 : 0 < zs.length := by cases zs with
    | nil => exact absurd rfl hne
    | cons => exact Nat.succ_pos _
  have e : hpp zs x = (zs.getD 0 nil0, sup (zs.set 0 x) 0) := if_pos ⟨hne, hx⟩
  rw [e]
  have hl : 0 < (zs.set 0 x).length := by rw [List.length_set]; exact h0
  refine ⟨sup_heap hl (heap_one x h), ?_, getD_mem h0, fun z hz => ?_, fun z hz => heap_min_mem h hz⟩
  · show ((zs.getD 0 nil0).2 :: keys (sup (zs.set 0 x) 0)).Perm _
    refine (List.Perm.cons _ (sup_perm hl)).trans ?_
    rw [keys_set, show (zs.getD 0 nil0).2 = (keys zs).getD 0 0 from (keys_getD zs 0).symm]
    exact cons_set0 (by rw [List.length_map]; exact h0)
  · have := sup_mem hl z hz
    rcases List.mem_or_eq_of_mem_set this with q | q
    · exact .inr q
    · exact .inl q
def stFD (s : Stmt) : List Stmt × Scope := by
  cases s with
  | FunctionDef _ _ b _ _ _ s _ _ _ => exact (b, s)
  | _ => exact ([], default)
def lawSt : Stmt := PySem.Challenge.pw_om0037_01.main.body.getLastD default
def lawBody : List Stmt := (stFD lawSt).1
def lawScope : Scope := (stFD lawSt).2
abbrev lawEnv (L f : Addr) (cd : Value) : Env := envOfC (Str.ofString "law") lawScope L f cd
/-- the law's ten cells -/
def cellsL (L : Addr) (o : Nat → Obj) : List (Addr × Obj) := [10, 9, 8, 7, 6, 5, 4, 3, 2, 1].map fun (i : Nat) => (L + i, o i)
section
variable {L : Addr} {o : Nat → Obj} {objs : List (Addr × Obj)}
theorem cellsL_mem {i : Nat} (h1 : 1 ≤ i) (h2 : i ≤ 10) : (L + i, o i) ∈ cellsL L o :=
  List.mem_map.mpr ⟨i, (by decide : ∀ i : Fin 11, 1 ≤ i.val → i.val ∈ [10, 9, 8, 7, 6, 5, 4, 3, 2, 1]) ⟨i, Nat.lt_succ_of_le h2⟩ h1, rfl⟩
theorem mem_c1 : (L + 1, o 1) ∈ cellsL L o ++ objs := List.mem_append_left _ (cellsL_mem (by decide) (by decide))
theorem mem_c2 : (L + 2, o 2) ∈ cellsL L o ++ objs := List.mem_append_left _ (cellsL_mem (by decide) (by decide))
theorem mem_c3 : (L + 3, o 3) ∈ cellsL L o ++ objs := List.mem_append_left _ (cellsL_mem (by decide) (by decide))
theorem mem_c4 : (L + 4, o 4) ∈ cellsL L o ++ objs := List.mem_append_left _ (cellsL_mem (by decide) (by decide))
theorem mem_c5 : (L + 5, o 5) ∈ cellsL L o ++ objs := List.mem_append_left _ (cellsL_mem (by decide) (by decide))
theorem mem_c6 : (L + 6, o 6) ∈ cellsL L o ++ objs := List.mem_append_left _ (cellsL_mem (by decide) (by decide))
theorem mem_c7 : (L + 7, o 7) ∈ cellsL L o ++ objs := List.mem_append_left _ (cellsL_mem (by decide) (by decide))
theorem mem_c8 : (L + 8, o 8) ∈ cellsL L o ++ objs := List.mem_append_left _ (cellsL_mem (by decide) (by decide))
theorem mem_c9 : (L + 9, o 9) ∈ cellsL L o ++ objs := List.mem_append_left _ (cellsL_mem (by decide) (by decide))
theorem mem_c10 : (L + 10, o 10) ∈ cellsL L o ++ objs := List.mem_append_left _ (cellsL_mem (by decide) (by decide))
theorem cellsL_at : ∀ p ∈ cellsL L o, ∃ i, 1 ≤ i ∧ i ≤ 10 ∧ p = (L + i, o i) := fun p hp => by
  obtain ⟨i, hi, e⟩ := List.mem_map.mp hp
  have z := (by decide : ∀ i ∈ [10, 9, 8, 7, 6, 5, 4, 3, 2, 1], 1 ≤ i ∧ i ≤ 10) i hi
  exact ⟨i, z.1, z.2, e.symm⟩
theorem cellsL_le : ∀ p ∈ cellsL L o, L < p.1 ∧ p.1 ≤ L + 10 := fun p hp => by
  obtain ⟨i, h1, h2, rfl⟩ := cellsL_at p hp
  exact ⟨Nat.lt_add_of_pos_right h1, Nat.add_le_add_left h2 _⟩
end
theorem cells_down {cm : Str → Option Value} {nm : Nat → Str} {L : Addr} {is : List Nat} : ∀ {cells : List (Addr × Obj)}, is.Nodup → CellsAre cm (is.map fun (i : Nat) => (nm i, L + i)) cells →
    ∃ o : Nat → Obj, cells = (is.map fun (i : Nat) => (L + i, o i)) ∧ ∀ i ∈ is, (o i).data = .cell (cm (nm i)) := by
  induction is with
  | nil =>
    intro _ _ x
    cases x
    exact ⟨fun _ => ⟨.none, none, .cell none, #[]⟩, rfl, fun _ h => nomatch h⟩
  | cons i is ih =>
    intro _ hn x
    rw [List.map_cons] at x
    cases x with
    | @cons _ _ ob _ _ h r =>
      obtain ⟨o, rfl, ho⟩ := ih (List.nodup_cons.mp hn).2 r
      have hne : ∀ j ∈ is, j ≠ i := fun j hj e => (List.nodup_cons.mp hn).1 (e ▸ hj)
      refine ⟨fun j => if j = i then ob else o j, ?_, all_cons ?_ fun j hj => ?_⟩
      · rw [List.map_cons]
        show (L + i, ob) :: _ = (L + i, if i = i then ob else o i) :: _
        rw [if_pos rfl]
        exact congrArg _ (List.map_congr_left fun j hj => congrArg _ (if_neg (hne j hj)).symm)
      · show (if i = i then ob else o i).data = _
        rw [if_pos rfl]; exact h
      · show (if j = i then ob else o j).data = _
        rw [if_neg (hne j hj)]; exact ho j hj
def nmL (i : Nat) : Str := ((cellsFrom 0 lawScope.names []).getD (10 - i) (Str.ofString "", 0)).1
theorem kc_law {cm : Str → Option Value} {L : Addr} {cells : List (Addr × Obj)} (x : CellsAre cm (cellsFrom (L + 1) lawScope.names []) cells) : ∃ o : Nat → Obj, cells = cellsL L o ∧ ∀ i ∈ [10, 9, 8, 7, 6, 5, 4, 3, 2, 1], (o i).data = .cell (cm (nmL i)) := by
  have e : cellsFrom (L + 1) lawScope.names [] = [10, 9, 8, 7, 6, 5, 4, 3, 2, 1].map fun (i : Nat) => (nmL i, L + i) := by with_unfolding_all rfl
  rw [e] at x
  exact cells_down (by decide) x
theorem put_objs {h₀ h : Heap} {L l : Addr} {o : Nat → Obj} {o' : Obj} {objs : List (Addr × Obj)} (hl : L + 10 < l) (N : News h₀ L h (put l o' (cellsL L o ++ objs))) : News h₀ L h (cellsL L o ++ put l o' objs) :=
  News.sub N fun p hp => by
    rcases List.mem_append.mp hp with hp | hp
    · exact mem_put (List.mem_append_left _ hp) (Nat.ne_of_lt (Nat.lt_of_le_of_lt (cellsL_le p hp).2 hl))
    · rcases List.mem_cons.mp hp with rfl | hp
      · exact put_mem
      · obtain ⟨a, b⟩ := List.mem_filter.mp hp
        exact mem_put (List.mem_append_right _ a) (by simpa using b)
/-- a store into a cell -/
theorem st_cell {w : World} {A : Around} {E : Value → Shared → Prop} {s : Shared} {env : Env} {h₀ : Heap} {L : Addr} {m : Str → Option Value} {o : Nat → Obj} {objs : List (Addr × Obj)} {x : Str} {v : Value} {Q : Unit → Shared → Prop} (i : Nat) (v₀ : Option Value)
    (F : Fr h₀ L s.heap m) (N : News h₀ L s.heap (cellsL L o ++ objs)) (hob : ∀ p ∈ objs, L + 10 < p.1) (h1 : 1 ≤ i) (h2 : i ≤ 10) (hd : (o i).data = .cell v₀)
    (hk : env.scope.kind = .function) (hx : env.kindOf x = some .cell) (hc : env.cells.lookup x = some (L + i))
    (h : ∀ h' o', (∀ j, j ≠ i → o' j = o j) → (o' i).data = .cell (some v) → Fr h₀ L h' m → News h₀ L h' (cellsL L o' ++ objs) → Q () { s with heap := h' }) :
    wpAny (model PG w) A (storeName env x v) Q E s := by
  have z := N (L + i, o i) (List.mem_append_left _ (cellsL_mem h1 h2))
  refine wpAny_storeName_cell hk hx hc ⟨_, z.1, hd⟩ fun h' hcell hs => ?_
  obtain ⟨oc, hoc, hdc⟩ := hcell
  refine h h' (fun j => if j = i then oc else o j) (fun j hj => if_neg hj) (by rw [if_pos rfl]; exact hdc) (F.change hs z.2.1 z.2.2) fun p hp => ?_
  rcases List.mem_append.mp hp with hp | hp
  · obtain ⟨j, a, b, rfl⟩ := cellsL_at p hp
    have y := N (L + j, o j) (List.mem_append_left _ (cellsL_mem a b))
    by_cases e : j = i
    · subst e
      rw [if_pos rfl]
      exact ⟨hoc, z.2⟩
    · rw [if_neg e]
      exact ⟨hs.extBut _ _ (fun q => e (Nat.add_left_cancel q)) y.1, y.2⟩
  · have y := N p (List.mem_append_right _ hp)
    exact ⟨hs.extBut _ _ (Nat.ne_of_gt (Nat.lt_of_le_of_lt (Nat.add_le_add_left h2 _) (hob p hp))) y.1, y.2⟩
theorem kstB_self {m : Str → Option Value} : ∀ {ps : List (Str × Value)}, (∀ p ∈ ps, m p.1 = some p.2) → kstB m ps = m
  | [], _ => rfl
  | (k, v) :: r, h => by
    funext z
    show (if z = k then some v else kstB m r z) = m z
    rw [kstB_self fun p hp => h p (List.mem_cons_of_mem _ hp)]
    split
    · rename_i q; rw [q]; exact (h (k, v) List.mem_cons_self).symm
    · rfl
theorem fr_names {h₀ h : Heap} {L : Addr} {m : Str → Option Value} (ps : List (Str × Value)) (F : Fr h₀ L h m) (hm : ∀ p ∈ ps, m p.1 = some p.2) : Fr h₀ L h (kstB m ps) := by rw [kstB_self hm]; exact F
theorem stop_cell {M : Model} {A : Around} {Q : Unit → Shared → Prop} {E : Value → Shared → Prop} {s : Shared} {env : Env} {x : Str} {v : Value} (h : Stop (wpAny M A (storeName env x v) Q E s)) (_ : env.kindOf x = some .cell := by rfl) : wpAny M A (storeName env x v) Q E s := h ()
local macro_rules | `(tactic| walk_at "exec For Name Name cons nil") => `(tactic| refine Stop.mk ?_)
local macro_rules | `(tactic| walk_at "exec For Name Call cons nil") => `(tactic| refine Stop.mk ?_)
local macro_rules | `(tactic| walk_at "exec For Tuple BinOp cons nil") => `(tactic| refine Stop.mk ?_)
local macro_rules | `(tactic| walk_at "cmem") => `(tactic| first | exact mem_c1 | exact mem_c2 | exact mem_c3 | exact mem_c4 | exact mem_c5 | exact mem_c6 | exact mem_c7 | exact mem_c8 | exact mem_c9 | exact mem_c10 | (refine List.mem_cons_of_mem _ ?_; walk_at "cmem") | (refine List.mem_append_right _ ?_; walk_at "cmem"))
local macro_rules | `(tactic| walk_at "eval Name") => `(tactic| ((with_reducible show wpAny _ _ (eval (Expr.Name _ _) (envOfC _ _ _ _ _)) _ _ _); k_dflt (refine nameC_C (h := ?_))))
local macro_rules | `(tactic| walk_at "storeName") => `(tactic| refine stop_cell ?_)
section
variable {w : World} {A : Around} {E : Value → Shared → Prop} {s : Shared} {env : Env} {h₀ : Heap} {L l : Addr} {m : Str → Option Value} {news : List (Addr × Obj)} {elt iter : PySem.Expr} {x : Str} {px : Pos} {ifs : List PySem.Expr} {scope : Scope} {cl : List (Str × Addr)} {pos : Pos} {σ : Type} {vs : List Value} {n : Nat}
/-- one turn of a comprehension over a list of the ledger -/
def LTurn (w : World) (A : Around) (s : Shared) (env : Env) (h₀ : Heap) (L l : Addr) (m : Str → Option Value) (news : List (Addr × Obj)) (elt : PySem.Expr) (x : Str) (ifs : List PySem.Expr) (scope : Scope) (cl : List (Str × Addr)) (N : Nat) (P : Nat → Value → Prop) {σ : Type} (Led : σ → List (Addr × Obj)) (Inv : Nat → σ → List Value → Prop) : Prop :=
  ∀ i c ys v h tk C oC mC X, i < N → P i v → Inv i c ys → NsO oC mC → mC x = some v → (∀ p ∈ (C, oC) :: X, p.1 = l ∨ ∀ q ∈ news, q.1 < p.1) → Fr h₀ L h m → News h₀ L h (((C, oC) :: X) ++ Led c) →
    wpAny (model PG w) A (testsOf ifs (compEnvC scope cl C env))
      (fun ok s₃ => if ok = true then wpAny (model PG w) A (eval elt (compEnvC scope cl C env)) (fun y s₄ => CEnd h₀ L m s Led Inv (i + 1) ((C, oC) :: X) (ys ++ [y]) s₄) (fun _ _ => False) s₃
        else CEnd h₀ L m s Led Inv (i + 1) ((C, oC) :: X) ys s₃) (fun _ _ => False) { s with heap := h, toks := tk }
theorem lturn {h' : Heap} {I : Addr} {fp : List Addr} {N : Nat} {P : Nat → Value → Prop} {Led : σ → List (Addr × Obj)} {Inv : Nat → σ → List Value → Prop} (hlt : ∀ p ∈ news, p.1 < I) (hIs : I < h'.objs.size) (hfp : ∀ b ∈ fp, b = I ∨ b = l)
    (turn : LTurn w A s env h₀ L l m news elt x ifs scope cl N P Led Inv) : CompTurn w A { s with heap := h' } env h₀ L m elt x ifs scope cl fp N P Led Inv := by
  intro i c ys v h tk own oC mC k hi hP hI hown hO hv F' N'
  refine wpAny_mono (turn i c ys v h tk _ oC mC ((h'.objs.size, lst ys k) :: own) hi hP hI hO hv ?_ F' N') (fun ok s₃ z => ?_) fun _ _ z => z
  · intro p hp
    rcases List.mem_cons.mp hp with rfl | hp
    · exact .inr fun q hq => Nat.lt_succ_of_lt (Nat.lt_trans (hlt q hq) hIs)
    rcases List.mem_cons.mp hp with rfl | hp
    · exact .inr fun q hq => Nat.lt_trans (hlt q hq) hIs
    · rcases hfp _ (hown p hp) with e | e
      · exact .inr fun q hq => e ▸ hlt q hq
      · exact .inl e
  · exact z
theorem lc_assign {y : Str} {py : Pos} {Q : Shared → Prop} (hh : A.handled = none) (F : Fr h₀ L s.heap m) (N : News h₀ L s.heap news) (hl : (l, lst vs n) ∈ news)
    (Led : σ → List (Addr × Obj)) (Inv : Nat → σ → List Value → Prop) (c₀ : σ) (hsub : ∀ p ∈ Led c₀, p ∈ news) (hLed : ∀ i c ys, Inv i c ys → ∀ p ∈ Led c, ∃ q ∈ news, q.1 = p.1) (hi : Inv 0 c₀ []) (hys : ∀ i c ys, Inv i c ys → ys.length ≤ 1000)
    (hcell : ∀ y ∈ scope.names, y.2 ≠ .cell) (hkind : scope.kind = .function) (hx : scope.names.lookup x = some .local)
    (hy : env.kindOf y = some .local) (hp : (env.scope.kind == .class || (env.scope.kind == .module && env.locals != env.globals)) = false) (hLe : env.locals = L)
    (turn : LTurn w A s env h₀ L l m news elt x ifs scope cl vs.length (fun i v => vs[i]? = some v) Led Inv)
    (fin : ∀ D c ys h tk k, Inv vs.length c ys → Fr h₀ L h (fun z => if z = y then some (.ref D) else m z) → News h₀ L h ((D, lst ys k) :: Led c) → (∀ p ∈ news, p.1 < D) → Q { s with heap := h, toks := tk }) :
    wpAny (model PG w) A (pyIter (.ref l)) (CompK w A env elt x px iter ifs scope cl pos (some (assign (.Name y py) env)) (fun _ s' => Q s') E) E s := by
  refine list_start F N hl fun I h' F' N' hlt hLI hI0 hIs hIt hIl => ?_
  have hlI : l ≠ I := Nat.ne_of_lt (hlt _ hl)
  have hlL := (N _ hl).2.1
  have hlz : l < h'.objs.size := Nat.lt_trans (hlt _ hl) hIs
  refine comp_assign (Q := fun _ s' => Q s') (Walks.list (prog := PG) (w := w) hh I l hlI vs.toArray) Led Inv c₀ hcell hkind hx hy hp hLe ⟨hIt, hIl⟩ ?_ ?_ ?_ F' (News.sub N' hsub) hi ?_ (lturn (l := l) hlt hIs (fun b hb => ?_) ?_) ?_
  · intro b hb
    rcases List.mem_cons.mp hb with rfl | hb
    · exact hIs
    · rw [List.mem_singleton.mp hb]; exact hlz
  · intro b hb
    rw [List.mem_singleton.mp hb]; exact hI0
  · intro hq
    rcases List.mem_cons.mp hq with q | q
    · exact hLI q
    · exact hlL (List.mem_singleton.mp q).symm
  · intro i c ys hI
    refine ⟨hys i c ys hI, fun p hp => ?_⟩
    obtain ⟨q, hq, e⟩ := hLed i c ys hI p hp
    have := hlt q hq
    rw [e] at this
    exact ⟨fun z => Nat.lt_irrefl _ (List.mem_singleton.mp z ▸ this), Nat.ne_of_lt (Nat.lt_trans this hIs), Nat.ne_of_lt (Nat.lt_succ_of_lt (Nat.lt_trans this hIs))⟩
  · rcases List.mem_cons.mp hb with q | q
    · exact .inl q
    · exact .inr (List.mem_singleton.mp q)
  · intro i c ys v h tk C oC mC X hi hP
    exact turn i c ys v h tk C oC mC X (by simpa using hi) (by simpa using hP)
  · intro c ys h tk k hI F6 N6
    exact fin _ c ys h tk k (by simpa using hI) F6 N6 fun p hp => Nat.lt_trans (hlt p hp) hIs
theorem lc_none {Q : Value → Shared → Prop} (hh : A.handled = none) (F : Fr h₀ L s.heap m) (N : News h₀ L s.heap news) (hl : (l, lst vs n) ∈ news)
    (Led : σ → List (Addr × Obj)) (Inv : Nat → σ → List Value → Prop) (c₀ : σ) (hsub : ∀ p ∈ Led c₀, p ∈ news) (hLed : ∀ i c ys, Inv i c ys → ∀ p ∈ Led c, ∃ q ∈ news, q.1 = p.1) (hi : Inv 0 c₀ []) (hys : ∀ i c ys, Inv i c ys → ys.length ≤ 1000)
    (hcell : ∀ y ∈ scope.names, y.2 ≠ .cell) (hkind : scope.kind = .function) (hx : scope.names.lookup x = some .local)
    (turn : LTurn w A s env h₀ L l m news elt x ifs scope cl vs.length (fun i v => vs[i]? = some v) Led Inv)
    (fin : ∀ D c ys h tk k, Inv vs.length c ys → Fr h₀ L h m → News h₀ L h ((D, lst ys k) :: Led c) → (∀ p ∈ news, p.1 < D) → Q (.ref D) { s with heap := h, toks := tk }) :
    wpAny (model PG w) A (pyIter (.ref l)) (CompK w A env elt x px iter ifs scope cl pos none Q E) E s := by
  refine list_start F N hl fun I h' F' N' hlt hLI hI0 hIs hIt hIl => ?_
  have hlI : l ≠ I := Nat.ne_of_lt (hlt _ hl)
  have hlL := (N _ hl).2.1
  have hlz : l < h'.objs.size := Nat.lt_trans (hlt _ hl) hIs
  refine comp_none (Walks.list (prog := PG) (w := w) hh I l hlI vs.toArray) Led Inv c₀ hcell hkind hx ⟨hIt, hIl⟩ ?_ ?_ ?_ F' (News.sub N' hsub) hi ?_ (lturn (l := l) hlt hIs (fun b hb => ?_) ?_) ?_
  · intro b hb
    rcases List.mem_cons.mp hb with rfl | hb
    · exact hIs
    · rw [List.mem_singleton.mp hb]; exact hlz
  · intro b hb
    rw [List.mem_singleton.mp hb]; exact hI0
  · intro hq
    rcases List.mem_cons.mp hq with q | q
    · exact hLI q
    · exact hlL (List.mem_singleton.mp q).symm
  · intro i c ys hI
    refine ⟨hys i c ys hI, fun p hp => ?_⟩
    obtain ⟨q, hq, e⟩ := hLed i c ys hI p hp
    have := hlt q hq
    rw [e] at this
    exact ⟨fun z => Nat.lt_irrefl _ (List.mem_singleton.mp z ▸ this), Nat.ne_of_lt (Nat.lt_trans this hIs), Nat.ne_of_lt (Nat.lt_succ_of_lt (Nat.lt_trans this hIs))⟩
  · rcases List.mem_cons.mp hb with q | q
    · exact .inl q
    · exact .inr (List.mem_singleton.mp q)
  · intro i c ys v h tk C oC mC X hi hP
    exact turn i c ys v h tk C oC mC X (by simpa using hi) (by simpa using hP)
  · intro c ys h tk k hI F6 N6
    exact fin _ c ys h tk k (by simpa using hI) F6 N6 fun p hp => Nat.lt_trans (hlt p hp) hIs
/-- over a range by ones -/
theorem rc_assign {r : Addr} {a b : Int} {t u v : Tok} {y : Str} {py : Pos} {Q : Shared → Prop} (hh : A.handled = none) (F : Fr h₀ L s.heap m) (N : News h₀ L s.heap news) (hr : IsRange s.heap r a b 1 t u v) (hsm : Builtin.Range.small a b 1 = true) (hsz : Builtin.Range.rangeSize a b 1 = n)
    (Led : σ → List (Addr × Obj)) (Inv : Nat → σ → List Value → Prop) (c₀ : σ) (hsub : ∀ p ∈ Led c₀, p ∈ news) (hLed : ∀ i c ys, Inv i c ys → ∀ p ∈ Led c, ∃ q ∈ news, q.1 = p.1) (hi : Inv 0 c₀ []) (hys : ∀ i c ys, Inv i c ys → ys.length ≤ 1000)
    (hcell : ∀ y ∈ scope.names, y.2 ≠ .cell) (hkind : scope.kind = .function) (hx : scope.names.lookup x = some .local)
    (hy : env.kindOf y = some .local) (hp : (env.scope.kind == .class || (env.scope.kind == .module && env.locals != env.globals)) = false) (hLe : env.locals = L)
    (turn : LTurn w A s env h₀ L L m news elt x ifs scope cl n (fun i v => ∃ t, v = .int (a + i) t) Led Inv)
    (fin : ∀ D c ys h tk k, Inv n c ys → Fr h₀ L h (fun z => if z = y then some (.ref D) else m z) → News h₀ L h ((D, lst ys k) :: Led c) → (∀ p ∈ news, p.1 < D) → Q { s with heap := h, toks := tk }) :
    wpAny (model PG w) A (pyIter (.ref r)) (CompK w A env elt x px iter ifs scope cl pos (some (assign (.Name y py) env)) (fun _ s' => Q s') E) E s := by
  refine range_start F N hr hsm hsz fun I h' F' N' hlt hLI hI0 hIs hIt => ?_
  refine comp_assign (Q := fun _ s' => Q s') (Walks.range (prog := PG) (w := w) hh I a 1 n) Led Inv c₀ hcell hkind hx hy hp hLe (by simpa using hIt) ?_ ?_ ?_ F' (News.sub N' hsub) hi ?_ (lturn (l := L) hlt hIs (fun b hb => .inl (List.mem_singleton.mp hb)) ?_) ?_
  · intro b hb
    rw [List.mem_singleton.mp hb]; exact hIs
  · intro b hb
    rw [List.mem_singleton.mp hb]; exact hI0
  · intro hq
    exact hLI (List.mem_singleton.mp hq)
  · intro i c ys hI
    refine ⟨hys i c ys hI, fun p hp => ?_⟩
    obtain ⟨q, hq, e⟩ := hLed i c ys hI p hp
    have := hlt q hq
    rw [e] at this
    exact ⟨fun z => Nat.lt_irrefl _ (List.mem_singleton.mp z ▸ this), Nat.ne_of_lt (Nat.lt_trans this hIs), Nat.ne_of_lt (Nat.lt_succ_of_lt (Nat.lt_trans this hIs))⟩
  · rintro i c ys v h tk C oC mC X hi ⟨tv, rfl⟩
    exact turn i c ys _ h tk C oC mC X hi ⟨tv, by rw [Int.mul_one]⟩
  · intro c ys h tk k hI F6 N6
    exact fin _ c ys h tk k hI F6 N6 fun p hp => Nat.lt_trans (hlt p hp) hIs
end
theorem ints_at {vs : List Value} {ns : List Int} (h : IntsAre vs ns) {i : Nat} {v : Value} (hv : vs[i]? = some v) : ∃ (hi : i < ns.length) (t : Tok), v = .int ns[i] t := by
  have hi : i < vs.length := (List.getElem?_eq_some_iff.mp hv).1
  have hi2 : i < ns.length := by rw [← h.length]; exact hi
  obtain ⟨t, e⟩ := h.get i ns[i] (List.getElem?_eq_getElem hi2)
  rw [e] at hv
  exact ⟨hi2, t, (Option.some.inj hv).symm⟩
theorem cell_lt {L D : Addr} {o : Nat → Obj} {objs : List (Addr × Obj)} (h : ∀ p ∈ cellsL L o ++ objs, p.1 < D) : L + 10 < D := h (L + 10, o 10) mem_c10
def drawOf (ns : List Int) : List Nat := (ns.take 63).map fun x => (x.fmod 1000000).toNat
theorem drawOf_iz (ns : List Int) : ((ns.take 63).map fun x => x.fmod 1000000) = iz (drawOf ns) := by
  unfold drawOf iz
  rw [List.map_map]
  refine List.map_congr_left fun x _ => ?_
  show x.fmod 1000000 = (((x.fmod 1000000).toNat : Nat) : Int)
  rw [Int.toNat_of_nonneg (Int.fmod_nonneg_of_pos _ (by decide))]
theorem drawOf_lt (ns : List Int) : ∀ x ∈ drawOf ns, x < 1000000 := by
  intro x hx
  obtain ⟨y, _, rfl⟩ := List.mem_map.mp hx
  have := Int.fmod_lt_of_pos y (b := 1000000) (by decide)
  have := Int.fmod_nonneg_of_pos y (b := 1000000) (by decide)
  lia
theorem drawOf_len {ns : List Int} (h : ns.length ≤ 63) : (drawOf ns).length ≤ 63 := by
  unfold drawOf
  rw [List.length_map, List.length_take]
  lia
set_option maxRecDepth 100000 in
set_option maxHeartbeats 4000000 in
theorem law_1 {w : World} {A : Around} {h₀ : Heap} {L f sl : Addr} {cd : Value} {s : Shared} {m : Str → Option Value} {us : List Value} {ns : List Int} {o : Nat → Obj} {Q : Flow → Shared → Prop}
    (G1 : Sit1 w A h₀ L (lawEnv L f cd)) (F : Fr h₀ L s.heap m) (N : News h₀ L s.heap (cellsL L o ++ [])) (hm : m (Str.ofString "script") = some (.ref sl))
    (hs : h₀.IsList sl us.toArray) (hI : IntsAre us ns) (hn : ns.length ≤ 63) (hd1 : ∀ i, 1 ≤ i → i ≤ 10 → (o i).data = .cell none)
    (K : ∀ D ys k (n : Nat) t o' m' h' tk', n < 10000 → IntsAre ys (iz (drawOf ns)) → (o' 1).data = .cell (some (.int (n : Nat) t)) → (∀ j, j ≠ 1 → o' j = o j) → L + 10 < D → m' (Str.ofString "draws") = some (.ref D) → Fr h₀ L h' m' → News h₀ L h' (cellsL L o' ++ [(D, lst ys k)]) →
      wpAny (model PG w) A (execs (lawBody.drop 3) (lawEnv L f cd)) Q (fun _ _ => False) { s with heap := h', toks := tk' }) :
    wpAny (model PG w) A (execs (lawBody.drop 0) (lawEnv L f cd)) Q (fun _ _ => False) s := by
  have KX := G1.inn
  have hh := G1.hh
  have hdl : (iz (drawOf ns)).length ≤ 63 := by rw [iz_length]; exact drawOf_len hn
  refine cps fun P9 k9 => ?_
  obtain ⟨loose, mean, mg, mb, hloose, T⟩ := G1.top
  refine k9 ?_
  clear k9 P9
  have F' := fr_names [(Str.ofString "script", .ref sl)] F (by simpa using hm)
  clear F
  dsimp only [kstB_cons, kstB_nil] at F'
  conv => pattern List.drop _ _; whnf
  unfold lawEnv
  conv => pattern lawScope; whnf
  w_on
  w_strict (
  k_steps
  (intro stop9; clear stop9)
  refine assign_listcomp_start [] (by with_unfolding_all rfl) (by with_unfolding_all rfl) rfl (by decide) ?_
  k_steps
  rename_i D1 ws1 h1 F1 N1 l1 hI1 _ hL1
  have hwl := hI1.length
  refine lc_assign (l := D1) (vs := ws1) (n := 0) hh F1 N1 List.mem_cons_self (σ := Unit) (fun _ => cellsL L o ++ []) (fun i _ ys => i ≤ ws1.length ∧ IntsAre ys (((ns.take 63).take i).map fun x => x.fmod 1000000)) () (fun p hp => List.mem_cons_of_mem _ hp) (fun _ _ _ _ p hp => ⟨p, List.mem_cons_of_mem _ hp, rfl⟩) ⟨Nat.zero_le _, IntsAre.nil⟩ ?_ (by decide) rfl rfl rfl rfl rfl ?_ ?_
  · rintro i c ys ⟨h9, hys⟩
    rw [hys.length, List.length_map, List.length_take]
    lia
  · rintro i c ys v h tk C oC mC X hi hv ⟨h9, hys⟩ hO hmx hX F2 N2
    obtain ⟨hi2, tv, rfl⟩ := ints_at hI1 hv
    k_steps
    refine c_end () F2 N2 (fun _ h => h) ⟨hi, ?_⟩
    rw [List.take_succ_eq_append_getElem hi2, List.map_append]
    exact ints_snoc hys
  · rintro D c ys h tk k ⟨_, hys⟩ F2 N2 hD
    rw [hwl, List.take_length, drawOf_iz] at hys
    have hDL : L + 10 < D := cell_lt (fun p hp => hD p (List.mem_cons_of_mem _ hp))
    dsimp only
    k_steps
    (intro stop9; clear stop9)
    have N3 : News h₀ L h (cellsL L o ++ [(D, lst ys k)]) := News.sub N2 (all_app (fun p hp => List.mem_cons_of_mem _ (List.mem_append_left _ hp)) (all_one (List.mem_cons_self)))
    clear N2 F1 N1
    refine st_cell 1 none F2 N3 (fun p hp => by rw [List.mem_singleton.mp hp]; exact hDL) (by decide) (by decide) (hd1 1 (by decide) (by decide)) rfl rfl rfl fun h3 o3 ho3 hd3 F3 N4 => ?_
    dsimp only
    k_steps
    (intro stop9; clear stop9)
    refine For_invVF F3 rfl rfl ?_
    k_steps
    (intro stop9; clear stop9)
    refine list_start (l := D) (vs := ys) (n := k) F3 N4 (List.mem_append_right _ List.mem_cons_self) fun I h5 F5 N6 hlt5 hLI hI0 hIs hIt hIl => ?_
    have hDI : D ≠ I := Nat.ne_of_lt (hlt5 (D, lst ys k) (List.mem_append_right _ List.mem_cons_self))
    have hDL' : D ≠ L := fun q => Nat.lt_irrefl _ (Nat.lt_of_le_of_lt (Nat.le_add_right L 10) (q ▸ hDL))
    have hIL : L + 10 < I := Nat.lt_trans hDL (hlt5 (D, lst ys k) (List.mem_append_right _ List.mem_cons_self))
    refine' loop_at (σ := (Nat → Obj) × Nat × Tok) (Walks.list (prog := PG) (w := w) hh I D hDI ys.toArray) (fun c => cellsL L c.1 ++ [(D, lst ys k)]) (fun _ => []) [Str.ofString "x"]
      (fun i c => (c.1 1).data = .cell (some (.int (c.2.1 : Nat) c.2.2)) ∧ (∀ j, j ≠ 1 → c.1 j = o3 j) ∧ c.2.1 < 10000) (o3, (iz (drawOf ns)).length, ?t1) ?_ (by simpa using hI0) ⟨hIt, hIl⟩ F5 N6 ?_ (fun _ h => nomatch h) ⟨hd3, fun _ _ => rfl, by show (iz (drawOf ns)).length < 10000; lia⟩ ?_ ?_
    · intro hq
      rcases List.mem_cons.mp hq with hq | hq
      · exact hLI hq
      · exact hDL' (List.mem_singleton.mp hq).symm
    · rintro i c - p hp hq
      have hq := List.mem_singleton.mp hq
      rcases List.mem_append.mp hp with hp | hp
      · exact Nat.lt_irrefl _ (Nat.lt_of_le_of_lt (cellsL_le p hp).2 (hq ▸ hIL))
      · rw [List.mem_singleton.mp hp] at hq
        exact hDI hq
    · intro i
      refine fa3 fun oc nv tn => ?_
      intro v u h6 tk6 own hi hv hq hown _ _ F7 N7
      dsimp only at hq N7
      refine an3 hq fun q1 q2 q3 => ?_
      clear hq
      dsimp only [kstB_cons, kstB_nil] at F7
      (try k_fold)
      obtain ⟨hi2, tv, rfl⟩ := ints_at hys (by simpa using hv)
      have hx : ((iz (drawOf ns))[i]'hi2) = (((drawOf ns)[i]'(by rw [iz_length] at hi2; exact hi2) : Nat) : Int) := by simp [iz]
      rw [hx] at F7
      generalize (drawOf ns)[i]'(by rw [iz_length] at hi2; exact hi2) = xv at F7
      k_steps
      (intro stop9; clear stop9)
      have e9 : ((nv : Int) * 31 + (xv : Int)).fmod 10000 = (((nv * 31 + xv) % 10000 : Nat) : Int) := by
        rw [← fmod_nat]; congr 1
      have hobo : ∀ p ∈ [(D, lst ys k)] ++ own, L + 10 < p.1 := fun p hp => by
        rcases List.mem_append.mp hp with hp | hp
        · rw [List.mem_singleton.mp hp]; exact hDL
        · rcases List.mem_cons.mp (hown p hp) with q | q
          · rw [q]; exact hIL
          · rw [List.mem_singleton.mp q]; exact hDL
      refine st_cell 1 _ F7 (News.sub N7 (news' := cellsL L oc ++ ([(D, lst ys k)] ++ own)) fun p hp => ?_) hobo (by decide) (by decide) q1 rfl rfl rfl fun h8 o8 ho8 hd8 F8 N9 => ?_
      · rcases List.mem_append.mp hp with hp | hp
        · exact List.mem_append_right _ (List.mem_append_left _ hp)
        rcases List.mem_append.mp hp with hp | hp
        · exact List.mem_append_right _ (List.mem_append_right _ hp)
        · exact List.mem_append_left _ hp
      have hd8' : (o8 1).data = .cell (some (.int (((nv : Int) * 31 + (xv : Int)).fmod 10000) _)) := hd8
      rw [e9] at hd8'
      dsimp only
      k_steps
      refine for_end (o8, (nv * 31 + xv) % 10000, _) F8 N9 ?_ (fun _ h => nomatch h) (by (intro z h1 h2 h3; first | rfl | ((simp only [List.forall_mem_cons, List.not_mem_nil, false_implies, implies_true, and_true, ne_eq] at h2); (simp only [List.contains_cons, List.contains_nil, Bool.or_false, Bool.or_eq_false_iff, beq_eq_false_iff_ne, ne_eq] at h3); (simp [h1, h2, h3]; done)) | ((simp only [List.forall_mem_cons, List.not_mem_nil, false_implies, implies_true, and_true, ne_eq] at h2); (simp [h1, h2]; done)) | (simp [h1]; done) | ((simp only [List.contains_cons, List.contains_nil, Bool.or_false, Bool.or_eq_false_iff, beq_eq_false_iff_ne, ne_eq] at h3); (simp [h1, h3]; done)))) ⟨hd8', fun j hj => (ho8 j hj).trans (q2 j hj), Nat.mod_lt _ (by decide)⟩
      exact all_app (fun p hp => List.mem_append_right _ (List.mem_append_right _ hp)) (all_app (fun p hp => List.mem_append_left _ hp) (fun p hp => List.mem_append_right _ (List.mem_append_left _ hp)))
    · refine fa3 fun oc nv tn => ?_
      intro u h6 tk6 hq F7 N7
      dsimp only at hq N7
      refine an3 hq fun q1 q2 q3 => ?_
      clear hq
      dsimp only [kstB_cons, kstB_nil] at F7
      (try k_fold)
      exact K D ys k nv tn oc _ h6 tk6 q3 hys q1 (fun j hj => (q2 j hj).trans (ho3 j hj)) hDL (by with_unfolding_all rfl) F7 N7)
theorem iz_sum (ds : List Nat) : (iz ds).sum = ((ds.sum : Nat) : Int) := by
  induction ds with
  | nil => rfl
  | cons a r ih => show (a : Int) + (iz r).sum = ((a + r.sum : Nat) : Int); rw [ih]; push_cast; rfl
theorem m_sum {w : World} {A : Around} {E : Value → Shared → Prop} {s : Shared} {h₀ : Heap} {L l : Addr} {m : Str → Option Value} {news : List (Addr × Obj)} {vs : List Value} {ds : List Nat} {n : Nat} {Q : Value → Shared → Prop} (hh : A.handled = none := by assumption) (F : Fr h₀ L s.heap m := by assumption) (N : News h₀ L s.heap news := by assumption) (hm : (l, lst vs n) ∈ news := by walk_at "member") (hI : IntsAre vs (iz ds) := by assumption)
    (h : ∀ h' tk t, Fr h₀ L h' m → News h₀ L h' news → Q (.int (ds.sum : Nat) t) { s with heap := h', toks := tk }) : wpAny (model PG w) A (call (.builtin "sum") [.ref l]) Q E s :=
  LSm.sum_ints F N hh (m_isList N hm) hI fun h' tk t F' N' => by rw [iz_sum]; exact h h' tk t F' N'
local macro_rules | `(tactic| walk_at "call builtin:sum") => `(tactic| (refine m_sum (h := ?_); intros))
theorem left_figs {a b : Nat} (ha : a < 10) (hb : b < 10) : Figs (leftOf [a, b]) ∧ (leftOf [a, b]).length ≤ 10 ∧ 8 ≤ (leftOf [a, b]).length := by
  have h := (by decide +kernel : ∀ a b : Fin 10, (8 ≤ (leftOf [a.val, b.val]).length)) ⟨a, ha⟩ ⟨b, hb⟩
  have h' : 8 ≤ (leftOf [a, b]).length := h
  refine ⟨⟨by lia, fun x hx => ?_, ?_⟩, ?_, h'⟩
  · exact List.mem_range.mp (List.mem_filter.mp hx).1
  · exact List.Pairwise.filter _ (List.pairwise_lt_range ..)
  · exact Nat.le_trans (List.length_filter_le _ _) (by rw [List.length_range]; exact Nat.le_refl _)
theorem m_max5 {w : World} {A : Around} {E : Value → Shared → Prop} {s : Shared} {h₀ : Heap} {L : Addr} {m : Str → Option Value} {news : List (Addr × Obj)} {a : Nat} {t u : Tok} {Q : Value → Shared → Prop} (hh : A.handled = none) (F : Fr h₀ L s.heap m) (N : News h₀ L s.heap news)
    (h : ∀ h' tk t', Fr h₀ L h' m → News h₀ L h' news → Q (.int ((a - 5 : Nat) : Int) t') { s with heap := h', toks := tk }) : wpAny (model PG w) A (call (.builtin "max") [.int 0 t, .int ((a : Int) - 5) u]) Q E s :=
  max_two_N hh F N fun h' tk F' N' => by
    have e : (if (a : Int) - 5 > 0 then (a : Int) - 5 else 0) = ((a - 5 : Nat) : Int) := by split <;> lia
    rw [e]
    exact h h' tk _ F' N'
theorem iz_range' (lo n : Nat) : rangeInts (lo : Int) 1 n = iz (List.range' lo n) := by
  unfold rangeInts iz
  rw [List.range'_eq_map_range, List.map_map]
  refine List.map_congr_left fun i _ => ?_
  show (lo : Int) + (i : Nat) * 1 = ((lo + i : Nat) : Int)
  lia
theorem m_list_range {w : World} {A : Around} {E : Value → Shared → Prop} {s : Shared} {h₀ : Heap} {L r : Addr} {m : Str → Option Value} {news : List (Addr × Obj)} {lo : Nat} {t u v : Tok} {Q : Value → Shared → Prop} (hh : A.handled = none) (F : Fr h₀ L s.heap m) (N : News h₀ L s.heap news)
    (hr : IsRange s.heap r (lo : Nat) ((lo : Int) + 12) 1 t u v) (hlo : lo < 10 ^ 5)
    (h : ∀ D h' tk ws k, IntsAre ws (iz (List.range' lo 12)) → Fr h₀ L h' m → News h₀ L h' ((D, lst ws k) :: news) → (∀ p ∈ news, p.1 < D) → Q (.ref D) { s with heap := h', toks := tk }) : wpAny (model PG w) A (call (.type "list") [.ref r]) Q E s := by
  have hsz : Builtin.Range.rangeSize (lo : Int) ((lo : Int) + 12) 1 = ((12 : Nat) : Int) := by
    unfold Builtin.Range.rangeSize
    rw [if_pos (by decide), if_pos (by lia)]
    lia
  refine list_rangeD hh F N hr (small_one (by walk_at "room") (by walk_at "room") (by walk_at "room") (by walk_at "room")) hsz (by decide) fun h' tk ys F' N' hk h0 hL hP hC => ?_
  obtain ⟨⟨k, hg⟩, hne⟩ := hP
  refine h _ h' tk ys k ?_ F' (fun p hp => ?_) fun p hp => Heap.lt_size (N p hp).1
  · have := CarriedAll.intsOf hC
    rw [List.map_id'] at this
    rw [← iz_range']
    exact this
  · rcases List.mem_cons.mp hp with rfl | hp
    · exact ⟨hg, NewPlain.ne_locals ⟨⟨k, hg⟩, hne⟩ F', h0⟩
    · exact N' p hp
def mkOf (ds : List Nat) : Nat := ds.sum % 10
def otOf (ds : List Nat) : Nat := (ds.sum / 10 + 3) % 10
def figsOf (ds : List Nat) : List Nat := leftOf [mkOf ds, otOf ds]
def arOf (ds : List Nat) (n : Nat) : Nat := nth (leastOf (figsOf ds)) (figsOf ds) (n + leastOf (figsOf ds))
def lowOf (ds : List Nat) (n : Nat) : Nat := arOf ds n - 5
theorem mkOf_lt (ds : List Nat) : mkOf ds < 10 := Nat.mod_lt _ (by decide)
theorem otOf_lt (ds : List Nat) : otOf ds < 10 := Nat.mod_lt _ (by decide)
theorem arOf_lt {ds : List Nat} {n : Nat} (hn : n < 10000) : arOf ds n < 100000 := by
  obtain ⟨hfg, hfl, hf8⟩ := left_figs (mkOf_lt ds) (otOf_lt ds)
  have hle := leastOf_le (figsOf ds)
  exact nth_lt hfg hf8 5 _ (by show _ < 32768; exact Nat.lt_of_le_of_lt (Nat.add_le_add_left hle n) (by lia))
theorem lowOf_lt {ds : List Nat} {n : Nat} (hn : n < 10000) : lowOf ds n < 100000 := Nat.lt_of_le_of_lt (Nat.sub_le _ _) (arOf_lt hn)
theorem step_of {i : Nat} (hi : i < 4) : ∃ st : Nat, ([1, 5, 7, 11] : List Int).getD i 0 = (st : Int) ∧ (st = 1 ∨ st = 5 ∨ st = 7 ∨ st = 11) := by
  have : i = 0 ∨ i = 1 ∨ i = 2 ∨ i = 3 := by lia
  rcases this with rfl | rfl | rfl | rfl
  · exact ⟨1, rfl, .inl rfl⟩
  · exact ⟨5, rfl, .inr (.inl rfl)⟩
  · exact ⟨7, rfl, .inr (.inr (.inl rfl))⟩
  · exact ⟨11, rfl, .inr (.inr (.inr rfl))⟩
set_option maxRecDepth 100000 in
set_option maxHeartbeats 4000000 in
theorem law_2 {w : World} {A : Around} {h₀ : Heap} {L f D : Addr} {cd : Value} {s : Shared} {m : Str → Option Value} {ys : List Value} {ds : List Nat} {n k : Nat} {tn : Tok} {o : Nat → Obj} {Q : Flow → Shared → Prop}
    (G : Sit w A h₀ L) (G1 : Sit1 w A h₀ L (lawEnv L f cd)) (F : Fr h₀ L s.heap m) (hd : A.depth + 4 < recursionLimit) (hu : A.units + 32 < cLine)
    (hm : m (Str.ofString "draws") = some (.ref D)) (N : News h₀ L s.heap (cellsL L o ++ [(D, lst ys k)])) (hDL : L + 10 < D) (hI : IntsAre ys (iz ds)) (hdl : ds.length ≤ 63) (hds : ∀ x ∈ ds, x < 1000000) (hn : n < 10000)
    (hc1 : (o 1).data = .cell (some (.int (n : Nat) tn))) (hc2 : (o 2).data = .cell none) (hc3 : (o 3).data = .cell none) (hc4 : (o 4).data = .cell none)
    (K : ∀ (st : Nat) lf lv lk wl wv wk tm to ta t2 t4 o' m' h' tk', (st = 1 ∨ st = 5 ∨ st = 7 ∨ st = 11) → IntsAre lv (iz (figsOf ds)) → IntsAre wv (iz (List.range' (lowOf ds n) 12)) → (o' 1).data = .cell (some (.int (n : Nat) tn)) → (o' 2).data = .cell (some (.int (lowOf ds n : Nat) t2)) → (o' 3).data = .cell (some (.ref wl)) → (o' 4).data = .cell (some (.int (st : Nat) t4)) → (∀ j, 5 ≤ j → o' j = o j) →
      L + 10 < lf → lf < wl → m' (Str.ofString "mark") = some (.int (mkOf ds : Nat) tm) → m' (Str.ofString "other") = some (.int (otOf ds : Nat) to) → m' (Str.ofString "left") = some (.ref lf) → m' (Str.ofString "around") = some (.int (arOf ds n : Nat) ta) → Fr h₀ L h' m' → News h₀ L h' (cellsL L o' ++ [(wl, lst wv wk), (lf, lst lv lk)]) →
      wpAny (model PG w) A (execs (lawBody.drop 10) (lawEnv L f cd)) Q (fun _ _ => False) { s with heap := h', toks := tk' }) :
    wpAny (model PG w) A (execs (lawBody.drop 3) (lawEnv L f cd)) Q (fun _ _ => False) s := by
  have KX := G1.inn
  have hh := G1.hh
  refine cps fun P9 k9 => ?_
  obtain ⟨loose, mean, mg, mb, hloose, T⟩ := G1.top
  refine k9 ?_
  clear k9 P9
  have F' := fr_names [(Str.ofString "draws", .ref D)] F (by simpa using hm)
  clear F
  dsimp only [kstB_cons, kstB_nil] at F'
  conv => pattern List.drop _ _; whnf
  unfold lawEnv
  conv => pattern lawScope; whnf
  w_on
  w_strict (
  have em : ((ds.sum : Nat) : Int).fmod 10 = ((mkOf ds : Nat) : Int) := fmod_nat _ 10
  have eo : (((ds.sum : Nat) : Int).fdiv 10 + 3).fmod 10 = ((otOf ds : Nat) : Int) := by
    have e1 : ((ds.sum : Nat) : Int).fdiv 10 = ((ds.sum / 10 : Nat) : Int) := fdiv_nat _ 10
    rw [e1, show ((ds.sum / 10 : Nat) : Int) + 3 = ((ds.sum / 10 + 3 : Nat) : Int) by lia]
    exact fmod_nat _ 10
  k_steps
  (intro stop9; clear stop9)
  rename_i l3 h3 F3 N3 hl3
  rw [em, eo] at F3 N3
  refine left_spec (ms := [mkOf ds, otOf ds]) G F3 N3 (by walk_at "room") (by walk_at "room") List.mem_cons_self (IntsAre.cons _ _ (IntsAre.cons _ _ IntsAre.nil)) (by show 2 ≤ 10; decide) fun lf lv lk h4 tk4 F4 N4 hlt4 hlv => ?_
  obtain ⟨hfg, hfl, hf8⟩ := left_figs (mkOf_lt ds) (otOf_lt ds)
  change IntsAre lv (iz (figsOf ds)) at hlv
  change Figs (figsOf ds) at hfg
  change (figsOf ds).length ≤ 10 at hfl
  change 8 ≤ (figsOf ds).length at hf8
  have hx0 : figsOf ds ≠ [] := by intro e; rw [e] at hf8; exact absurd hf8 (by decide)
  have hx100 : (iz (figsOf ds)).length ≤ 100 := by rw [iz_length]; lia
  k_steps
  (intro stop9; clear stop9)
  have hle := leastOf_le (figsOf ds)
  rw [show (n : Int) + ((leastOf (figsOf ds) : Nat) : Int) = ((n + leastOf (figsOf ds) : Nat) : Int) by lia]
  refine nth_spec (xs := figsOf ds) G (by assumption) (by assumption) (by walk_at "room") (by walk_at "room") (by walk_at "member") hlv hfg.two hfl hfg.lt (by lia) fun t5 h5 tk5 F5 N5 => ?_
  have har := arOf_lt (ds := ds) hn
  change Fr h₀ L h5 _ at F5
  have har' : nth (leastOf (figsOf ds)) (figsOf ds) (n + leastOf (figsOf ds)) = arOf ds n := rfl
  rw [har'] 
  k_steps
  refine m_max5 hh (by assumption) (by assumption) fun h6 tk6 t6 F6 N6 => ?_
  have hlow := lowOf_lt (ds := ds) hn
  have hloe : arOf ds n - 5 = lowOf ds n := rfl
  rw [hloe]
  k_steps
  (intro stop9; clear stop9)
  have hlf : L + 10 < lf := cell_lt (fun p hp => hlt4 p (List.mem_cons_of_mem _ hp))
  have hob7 : ∀ p ∈ [(lf, lst lv lk), (D, lst ys k)], L + 10 < p.1 := all_cons (hlf) (all_one (hDL))
  have N7 : News h₀ L h6 (cellsL L o ++ [(lf, lst lv lk), (D, lst ys k)]) := News.sub N6 (all_app (fun p hp => List.mem_cons_of_mem _ (List.mem_cons_of_mem _ (List.mem_append_left _ hp))) (all_cons (List.mem_cons_self) (fun p hp => List.mem_cons_of_mem _ (List.mem_cons_of_mem _ (List.mem_append_right _ hp)))))
  refine st_cell 2 none F6 N7 hob7 (by decide) (by decide) hc2 rfl rfl rfl fun h8 o8 ho8 hd8 F8 N8 => ?_
  dsimp only
  clear N6 N7
  k_steps
  refine m_list_range (lo := lowOf ds n) hh (by assumption) (by assumption) (by assumption) hlow fun wl h10 tk10 wv wk hwv F10 N10 hlt10 => ?_
  k_steps
  (intro stop9; clear stop9)
  have hwl : L + 10 < wl := cell_lt hlt10
  have hob11 : ∀ p ∈ [(wl, lst wv wk), (lf, lst lv lk), (D, lst ys k)], L + 10 < p.1 := all_cons (hwl) (fun p hp => hob7 p hp)
  have N11 : News h₀ L h10 (cellsL L o8 ++ [(wl, lst wv wk), (lf, lst lv lk), (D, lst ys k)]) := News.sub N10 (all_app (fun p hp => List.mem_cons_of_mem _ (List.mem_append_left _ hp)) (all_cons (List.mem_cons_self) (fun p hp => List.mem_cons_of_mem _ (List.mem_append_right _ hp))))
  have hc3' : (o8 3).data = .cell none := by rw [ho8 3 (by decide)]; exact hc3
  refine st_cell 3 none F10 N11 hob11 (by decide) (by decide) hc3' rfl rfl rfl fun h12 o12 ho12 hd12 F12 N12 => ?_
  dsimp only
  clear N10 N11
  k_steps
  (intro stop9; clear stop9)
  rename_i l13 h13 _ _ hl13 h14 tk14 t14 F14 N14 t15
  have e4 : ((ds.sum : Nat) : Int).fmod 4 = ((ds.sum % 4 : Nat) : Int) := fmod_nat _ 4
  obtain ⟨st, hst, hst4⟩ := step_of (i := ds.sum % 4) (Nat.mod_lt _ (by decide))
  have hc4' : (o12 4).data = .cell none := by rw [ho12 4 (by decide), ho8 4 (by decide)]; exact hc4
  refine st_cell 4 none F14 (News.sub N14 fun p hp => List.mem_cons_of_mem _ hp) hob11 (by decide) (by decide) hc4' rfl rfl rfl fun h16 o16 ho16 hd16 F16 N16 => ?_
  have hd17 : (o16 4).data = .cell (some (.int (([1, 5, 7, 11] : List Int).getD (((ds.sum : Nat) : Int).fmod 4).toNat 0) t15)) := hd16
  rw [e4, Int.toNat_natCast, hst] at hd17
  refine K st lf lv lk wl wv wk _ _ _ t6 _ o16 _ h16 _ hst4 (by assumption) (by assumption) ?_ ?_ ?_ hd17 ?_ hlf (hlt10 (lf, lst lv lk) (List.mem_append_right _ List.mem_cons_self)) (by with_unfolding_all rfl) (by with_unfolding_all rfl) (by with_unfolding_all rfl) (by with_unfolding_all rfl) F16 (News.sub N16 ?_)
  · rw [ho16 1 (by decide), ho12 1 (by decide), ho8 1 (by decide)]; exact hc1
  · rw [ho16 2 (by decide), ho12 2 (by decide)]; exact hd8
  · rw [ho16 3 (by decide)]; exact hd12
  · intro j hj
    rw [ho16 j (by lia), ho12 j (by lia), ho8 j (by lia)]
  · exact all_app (fun p hp => List.mem_append_left _ hp) (fun p hp => List.mem_append_right _ ((all_cons (List.mem_cons_self) (all_one (List.mem_cons_of_mem _ List.mem_cons_self))) p hp)))
def g (m p : Nat) : Bool := !((digs p).contains m)
theorem digs_lt10 {p d : Nat} (h : d ∈ digs p) : d < 10 := by
  unfold digs at h
  obtain ⟨c, hc, rfl⟩ := List.mem_map.mp h
  have := toDigits_digit hc
  exact Nat.sub_lt_left_of_lt_add this.1 (Nat.lt_succ_of_le this.2)
theorem mem_left {ms : List Nat} {d : Nat} (hd : d < 10) : d ∈ leftOf ms ↔ d ∉ ms := by
  unfold leftOf
  rw [List.mem_filter, List.mem_range]
  simp [hd]
theorem good_one {m p : Nat} : decide (∀ d ∈ digs p, d ∈ leftOf [m]) = g m p := by
  unfold g
  rw [Bool.eq_iff_iff]
  simp only [decide_eq_true_eq, Bool.not_eq_true', List.contains_eq_mem, decide_eq_false_iff_not]
  constructor
  · intro h hm
    exact (mem_left (digs_lt10 hm)).mp (h m hm) List.mem_cons_self
  · intro h d hd
    exact (mem_left (digs_lt10 hd)).mpr fun q => h (List.mem_singleton.mp q ▸ hd)
theorem good_two {m m' p : Nat} : decide (∀ d ∈ digs p, d ∈ leftOf [m, m']) = (g m p && g m' p) := by
  unfold g
  rw [Bool.eq_iff_iff]
  simp only [decide_eq_true_eq, Bool.and_eq_true, Bool.not_eq_true', List.contains_eq_mem, decide_eq_false_iff_not]
  constructor
  · intro h
    exact ⟨fun hm => (mem_left (digs_lt10 hm)).mp (h _ hm) List.mem_cons_self, fun hm => (mem_left (digs_lt10 hm)).mp (h _ hm) (List.mem_cons_of_mem _ List.mem_cons_self)⟩
  · intro h d hd
    refine (mem_left (digs_lt10 hd)).mpr fun q => ?_
    rcases List.mem_cons.mp q with q | q
    · exact h.1 (q ▸ hd)
    · exact h.2 (List.mem_singleton.mp q ▸ hd)
theorem left_dup (a : Nat) : leftOf [a] = leftOf [a, a] := by
  unfold leftOf
  congr 1
  funext d
  simp
theorem left_lay {a b : Nat} (ha : a < 10) (hb : b < 10) : PyData.layable0 (.list ((iz (leftOf [a, b])).map .int)) = true :=
  (by decide +kernel : ∀ a b : Fin 10, PyData.layable0 (.list ((iz (leftOf [a.val, b.val])).map .int)) = true) ⟨a, ha⟩ ⟨b, hb⟩
theorem left_figs1 {a : Nat} (ha : a < 10) : Figs (leftOf [a]) ∧ (leftOf [a]).length ≤ 10 ∧ 8 ≤ (leftOf [a]).length := by rw [left_dup]; exact left_figs ha ha
theorem left_lay1 {a : Nat} (ha : a < 10) : PyData.layable0 (.list ((iz (leftOf [a])).map .int)) = true := by rw [left_dup]; exact left_lay ha ha
/-- what _law_counted gives, said of the window -/
theorem counted_ok {w : World} {A : Around} {h₀ : Heap} {L : Addr} {s : Shared} {m : Str → Option Value} {news : List (Addr × Obj)} {l : Addr} {vs : List Value} {xs : List Nat} {n : Nat} {around low : Nat} {t u : Tok} {Q E : Value → Shared → Prop}
    (G : Sit w A h₀ L) (F : Fr h₀ L s.heap m) (N : News h₀ L s.heap news) (hd : A.depth + 4 < recursionLimit) (hu : A.units + 32 < cLine)
    (hl : (l, lst vs n) ∈ news) (hI : IntsAre vs (iz xs)) (H : Figs xs) (hx' : xs.length ≤ 10) (hlay : PyData.layable0 (.list ((iz xs).map .int)) = true)
    (ha : around < 100000) (hds : ∀ d ∈ digs around, d ∈ xs) (hlow : low ≤ around)
    (hret : ∀ r vs' n' h' tk', Fr h₀ L h' m → News h₀ L h' ((r, lst vs' n') :: news) → (∀ p ∈ news, p.1 < r) → IntsAre vs' (iz ((List.range' low 12).filter fun p => decide (∀ d ∈ digs p, d ∈ xs))) → Q (.ref r) { s with heap := h', toks := tk' }) :
    wpAny (model PG w) A (call (.ref 142) [.int around t, .ref l, .int low u]) Q E s := by
  obtain ⟨a, b⟩ := nth_val H around hds
  have hc := counted_eq H hds hlow
  have hv := nth_ge H (valOf xs (digs around))
  rw [a] at hv
  rw [← hc] at hret
  refine counted_spec G F N hd hu hl hI H.two hx' H.lt hlay (fun v _ => nth_mono H _ _ (Nat.lt_succ_self v)) (nth_ge H) (by lia) hds b (by walk_at "room") (by walk_at "room") ?_ hret
  rw [hc]
  exact Nat.le_trans (List.length_filter_le _ _) (by rw [List.length_range']; decide)
theorem ar_digs {ds : List Nat} {n : Nat} : ∀ d ∈ digs (arOf ds n), d ∈ figsOf ds :=
  nth_digs (left_figs (mkOf_lt ds) (otOf_lt ds)).1 _ (Nat.le_add_left _ _)
theorem ar_digs1 {ds : List Nat} {n : Nat} : ∀ d ∈ digs (arOf ds n), d ∈ leftOf [mkOf ds] := fun d hd =>
  (mem_left (digs_lt10 hd)).mpr fun q => (mem_left (digs_lt10 hd)).mp (ar_digs d hd) (by rw [List.mem_singleton.mp q]; exact List.mem_cons_self)
theorem ar_digs2 {ds : List Nat} {n : Nat} : ∀ d ∈ digs (arOf ds n), d ∈ leftOf [otOf ds] := fun d hd =>
  (mem_left (digs_lt10 hd)).mpr fun q => (mem_left (digs_lt10 hd)).mp (ar_digs d hd) (by rw [List.mem_singleton.mp q]; exact List.mem_cons_of_mem _ List.mem_cons_self)
theorem draw_val (low i st n : Nat) : (iz (List.range' low 12)).getD ((((i : Nat) : Int) * ((st : Nat) : Int) + ((n : Nat) : Int)).fmod 12).toNat 0 = ((low + (i * st + n) % 12 : Nat) : Int) := by
  have e : (((i : Nat) : Int) * ((st : Nat) : Int) + ((n : Nat) : Int)).fmod 12 = (((i * st + n) % 12 : Nat) : Int) := by
    rw [← fmod_nat]; push_cast; rfl
  have h : (i * st + n) % 12 < 12 := Nat.mod_lt _ (by decide)
  rw [e, Int.toNat_natCast, iz_getD]
  congr 1
  simp [List.getD, List.getElem?_range', h]
def drawnOf (low st n : Nat) : List Nat := (List.range 12).map fun i => low + (i * st + n) % 12
set_option maxRecDepth 100000 in
set_option maxHeartbeats 4000000 in
theorem law_3 {w : World} {A : Around} {h₀ : Heap} {L f lf wl : Addr} {cd : Value} {s : Shared} {m : Str → Option Value} {lv wv : List Value} {ds : List Nat} {n lk wk st : Nat} {tn tm to ta t2 t4 : Tok} {o : Nat → Obj} {Q : Flow → Shared → Prop}
    (G : Sit w A h₀ L) (G1 : Sit1 w A h₀ L (lawEnv L f cd)) (F : Fr h₀ L s.heap m) (hd : A.depth + 8 < recursionLimit) (hu : A.units + 64 < cLine) (hn : n < 10000)
    (hst : st = 1 ∨ st = 5 ∨ st = 7 ∨ st = 11) (hlv : IntsAre lv (iz (figsOf ds))) (hwv : IntsAre wv (iz (List.range' (lowOf ds n) 12))) (hc1 : (o 1).data = .cell (some (.int (n : Nat) tn))) (hc2 : (o 2).data = .cell (some (.int (lowOf ds n : Nat) t2))) (hc3 : (o 3).data = .cell (some (.ref wl))) (hc4 : (o 4).data = .cell (some (.int (st : Nat) t4)))
    (hc5 : (o 5).data = .cell none) (hc6 : (o 6).data = .cell none) (hc7 : (o 7).data = .cell none)
    (hLf : L + 10 < lf) (hfw : lf < wl) (hm : ∀ p ∈ [(Str.ofString "mark", .int (mkOf ds : Nat) tm), (Str.ofString "other", .int (otOf ds : Nat) to), (Str.ofString "left", .ref lf), (Str.ofString "around", .int (arOf ds n : Nat) ta)], m p.1 = some p.2)
    (N : News h₀ L s.heap (cellsL L o ++ [(wl, lst wv wk), (lf, lst lv lk)]))
    (K : ∀ dr dv dk ol ov ok tl tv tk bl bv bk o' m' h' tk', IntsAre dv (iz (drawnOf (lowOf ds n) st n)) → IntsAre ov (iz ((List.range' (lowOf ds n) 12).filter (g (mkOf ds)))) → IntsAre tv (iz ((List.range' (lowOf ds n) 12).filter (g (otOf ds)))) → IntsAre bv (iz ((List.range' (lowOf ds n) 12).filter (fun p => g (mkOf ds) p && g (otOf ds) p))) → IntsAre wv (iz (List.range' (lowOf ds n) 12)) →
      (o' 2).data = .cell (some (.int (lowOf ds n : Nat) t2)) → (o' 3).data = .cell (some (.ref wl)) → (o' 5).data = .cell (some (.ref ol)) → (o' 6).data = .cell (some (.ref tl)) → (o' 7).data = .cell (some (.ref bl)) → (∀ j, 8 ≤ j → o' j = o j) →
      L + 10 < wl → wl < dr → dr < ol → ol < tl → tl < bl → m' (Str.ofString "mark") = some (.int (mkOf ds : Nat) tm) → m' (Str.ofString "other") = some (.int (otOf ds : Nat) to) → m' (Str.ofString "drawn") = some (.ref dr) → Fr h₀ L h' m' → News h₀ L h' (cellsL L o' ++ [(bl, lst bv bk), (tl, lst tv tk), (ol, lst ov ok), (dr, lst dv dk), (wl, lst wv wk)]) →
      wpAny (model PG w) A (execs (lawBody.drop 14) (lawEnv L f cd)) Q (fun _ _ => False) { s with heap := h', toks := tk' }) :
    wpAny (model PG w) A (execs (lawBody.drop 10) (lawEnv L f cd)) Q (fun _ _ => False) s := by
  have KX := G1.inn
  have hh := G1.hh
  refine cps fun P9 k9 => ?_
  obtain ⟨loose, mean, mg, mb, hloose, T⟩ := G1.top
  refine k9 ?_
  clear k9 P9
  have F' := fr_names _ F hm
  clear F
  dsimp only [kstB_cons, kstB_nil] at F'
  conv => pattern List.drop _ _; whnf
  unfold lawEnv
  conv => pattern lawScope; whnf
  have hlow := lowOf_lt (ds := ds) hn
  generalize hLow : lowOf ds n = low at hwv hc2 hlow
  w_on
  w_strict (
  k_steps
  (intro stop9; clear stop9)
  refine assign_listcomp_start _ (by with_unfolding_all rfl) (by with_unfolding_all rfl) rfl (by decide) ?_
  k_steps
  refine rc_assign (L := L) (n := 12) hh (by assumption) (by assumption) (by assumption) (by decide +kernel) (by decide +kernel) (σ := Unit) (fun _ => cellsL L o ++ [(wl, lst wv wk), (lf, lst lv lk)]) (fun i _ ys => i ≤ 12 ∧ IntsAre ys (iz ((List.range i).map fun i => low + (i * st + n) % 12))) () (fun p hp => hp) (fun _ _ _ _ p hp => ⟨p, hp, rfl⟩) ⟨Nat.zero_le _, IntsAre.nil⟩ ?_ (by decide) rfl rfl rfl rfl rfl ?_ ?_
  · rintro i c ys ⟨h9, hys⟩
    rw [hys.length, List.length_map, List.length_map, List.length_range]
    lia
  · rintro i c ys v h tk C oC mC X hi ⟨tv, rfl⟩ ⟨h9, hys⟩ hO hmx hX F2 N2
    rw [show (0 : Int) + (i : Nat) = ((i : Nat) : Int) by lia] at hmx
    dsimp only at N2
    k_steps
    refine c_end () F2 N2 (fun _ h => h) ⟨hi, ?_⟩
    rw [List.range_succ, List.map_append, draw_val]
    show IntsAre _ (List.map _ (_ ++ _))
    rw [List.map_append]
    exact ints_snoc hys
  · rintro dr c ys h tk k ⟨_, hys⟩ F2 N2 hD
    change IntsAre ys (iz (drawnOf low st n)) at hys
    have hdw : wl < dr := hD (wl, lst wv wk) (by walk_at "member")
    have hLd : L + 10 < dr := cell_lt hD
    dsimp only at N2 ⊢
    have hmk := mkOf_lt ds
    have hot := otOf_lt ds
    obtain ⟨fg1, fl1, _⟩ := left_figs1 hmk
    obtain ⟨fg2, fl2, _⟩ := left_figs1 hot
    obtain ⟨fg3, fl3, _⟩ := left_figs hmk hot
    have har := arOf_lt (ds := ds) hn
    have hla : low ≤ arOf ds n := by rw [← hLow]; exact Nat.sub_le _ _
    k_steps
    (intro stop9; clear stop9)
    rename_i l3 h3 F3 N3 hl3
    refine left_spec (ms := [mkOf ds]) G F3 N3 (by walk_at "room") (by walk_at "room") List.mem_cons_self (IntsAre.cons _ _ IntsAre.nil) (by show 1 ≤ 10; decide) fun lf1 lv1 lk1 h4 tk4 F4 N4 hlt4 hlv1 => ?_
    k_steps
    (intro stop9; clear stop9)
    refine counted_ok (xs := leftOf [mkOf ds]) G F4 N4 (by walk_at "room") (by walk_at "room") List.mem_cons_self hlv1 fg1 fl1 (left_lay1 hmk) har ar_digs1 hla fun ol ov ok h5 tk5 F5 N5 hlt5 hov => ?_
    have e1 : ((List.range' low 12).filter fun p => decide (∀ d ∈ digs p, d ∈ leftOf [mkOf ds])) = (List.range' low 12).filter (g (mkOf ds)) := List.filter_congr fun p _ => good_one
    rw [e1] at hov
    have hdo : dr < ol := hlt5 (dr, lst ys k) (by walk_at "member")
    have hLo : L + 10 < ol := Nat.lt_trans hLd hdo
    have N6 : News h₀ L h5 (cellsL L o ++ [(ol, lst ov ok), (dr, lst ys k), (wl, lst wv wk), (lf, lst lv lk)]) := News.sub N5 (by (first | ((repeat' (first | (with_reducible refine all_cons ?_ ?_) | (with_reducible refine all_app ?_ ?_))) <;> (first | walk_at "member" | exact List.forall_mem_nil _ | (intro p hp; walk_at "member"))) | (intro p hp; (simp only [List.mem_cons, List.mem_append, List.not_mem_nil, or_false, List.nil_append, List.cons_append, List.append_nil] at hp ⊢); grind)))
    clear N5
    k_steps
    (intro stop9; clear stop9)
    have hob6 : ∀ p ∈ [(ol, lst ov ok), (dr, lst ys k), (wl, lst wv wk), (lf, lst lv lk)], L + 10 < p.1 := all_cons (hLo) (all_cons (hLd) (all_cons (Nat.lt_trans hLf hfw) (all_one (hLf))))
    refine st_cell 5 none F5 N6 hob6 (by decide) (by decide) hc5 rfl rfl rfl fun h7 o7 ho7 hd7 F7 N7 => ?_
    clear N6 F5
    have hc2' : (o7 2).data = .cell (some (.int (low : Nat) t2)) := by rw [ho7 2 (by decide)]; exact hc2
    k_steps
    (intro stop9; clear stop9)
    rename_i l8 h8 F8 N8 hl8
    refine left_spec (ms := [otOf ds]) G F8 N8 (by walk_at "room") (by walk_at "room") List.mem_cons_self (IntsAre.cons _ _ IntsAre.nil) (by show 1 ≤ 10; decide) fun lf2 lv2 lk2 h9 tk9 F9 N9 hlt9 hlv2 => ?_
    k_steps
    (intro stop9; clear stop9)
    refine counted_ok (xs := leftOf [otOf ds]) G F9 N9 (by walk_at "room") (by walk_at "room") List.mem_cons_self hlv2 fg2 fl2 (left_lay1 hot) har ar_digs2 hla fun tl tv tk h10 tk10 F10 N10 hlt10 htv => ?_
    have e2 : ((List.range' low 12).filter fun p => decide (∀ d ∈ digs p, d ∈ leftOf [otOf ds])) = (List.range' low 12).filter (g (otOf ds)) := List.filter_congr fun p _ => good_one
    rw [e2] at htv
    have hot' : ol < tl := hlt10 (ol, lst ov ok) (by walk_at "member")
    have hLt : L + 10 < tl := Nat.lt_trans hLo hot'
    have N11 : News h₀ L h10 (cellsL L o7 ++ [(tl, lst tv tk), (ol, lst ov ok), (dr, lst ys k), (wl, lst wv wk), (lf, lst lv lk)]) := News.sub N10 (by (first | ((repeat' (first | (with_reducible refine all_cons ?_ ?_) | (with_reducible refine all_app ?_ ?_))) <;> (first | walk_at "member" | exact List.forall_mem_nil _ | (intro p hp; walk_at "member"))) | (intro p hp; (simp only [List.mem_cons, List.mem_append, List.not_mem_nil, or_false, List.nil_append, List.cons_append, List.append_nil] at hp ⊢); grind)))
    clear N10
    k_steps
    (intro stop9; clear stop9)
    have hob11 : ∀ p ∈ [(tl, lst tv tk), (ol, lst ov ok), (dr, lst ys k), (wl, lst wv wk), (lf, lst lv lk)], L + 10 < p.1 := all_cons (hLt) (fun p hp => hob6 p hp)
    have hc6' : (o7 6).data = .cell none := by rw [ho7 6 (by decide)]; exact hc6
    refine st_cell 6 none F10 N11 hob11 (by decide) (by decide) hc6' rfl rfl rfl fun h12 o12 ho12 hd12 F12 N12 => ?_
    clear N11 F10
    have hc2'' : (o12 2).data = .cell (some (.int (low : Nat) t2)) := by rw [ho12 2 (by decide)]; exact hc2'
    k_steps
    (intro stop9; clear stop9)
    refine counted_ok (xs := figsOf ds) G (by assumption) (by assumption) (by walk_at "room") (by walk_at "room") (by walk_at "member") (by assumption) fg3 fl3 (left_lay hmk hot) har ar_digs hla fun bl bv bk h13 tk13 F13 N13 hlt13 hbv => ?_
    have e3 : ((List.range' low 12).filter fun p => decide (∀ d ∈ digs p, d ∈ figsOf ds)) = (List.range' low 12).filter (fun p => g (mkOf ds) p && g (otOf ds) p) := List.filter_congr fun p _ => good_two
    rw [e3] at hbv
    have htb : tl < bl := hlt13 (tl, lst tv tk) (by walk_at "member")
    have hLb : L + 10 < bl := Nat.lt_trans hLt htb
    have N14 : News h₀ L h13 (cellsL L o12 ++ [(bl, lst bv bk), (tl, lst tv tk), (ol, lst ov ok), (dr, lst ys k), (wl, lst wv wk)]) := News.sub N13 (by (first | ((repeat' (first | (with_reducible refine all_cons ?_ ?_) | (with_reducible refine all_app ?_ ?_))) <;> (first | walk_at "member" | exact List.forall_mem_nil _ | (intro p hp; walk_at "member"))) | (intro p hp; (simp only [List.mem_cons, List.mem_append, List.not_mem_nil, or_false, List.nil_append, List.cons_append, List.append_nil] at hp ⊢); grind)))
    clear N13
    k_steps
    (intro stop9; clear stop9)
    have hob14 : ∀ p ∈ [(bl, lst bv bk), (tl, lst tv tk), (ol, lst ov ok), (dr, lst ys k), (wl, lst wv wk)], L + 10 < p.1 := all_cons (hLb) (all_cons (hLt) (all_cons (hLo) (all_cons (hLd) (all_one (Nat.lt_trans hLf hfw)))))
    have hc7' : (o12 7).data = .cell none := by rw [ho12 7 (by decide), ho7 7 (by decide)]; exact hc7
    refine st_cell 7 none F13 N14 hob14 (by decide) (by decide) hc7' rfl rfl rfl fun h15 o15 ho15 hd15 F15 N15 => ?_
    refine K dr ys k ol ov ok tl tv tk bl bv bk o15 _ h15 _ (by rw [hLow]; assumption) (by rw [hLow]; assumption) (by rw [hLow]; assumption) (by rw [hLow]; assumption) (by rw [hLow]; assumption) ?_ ?_ ?_ ?_ hd15 ?_ (Nat.lt_trans hLf hfw) hdw hdo hot' htb (by with_unfolding_all rfl) (by with_unfolding_all rfl) (by with_unfolding_all rfl) F15 N15
    · rw [ho15 2 (by decide), hLow]; exact hc2''
    · rw [ho15 3 (by decide), ho12 3 (by decide), ho7 3 (by decide)]; exact hc3
    · rw [ho15 5 (by decide), ho12 5 (by decide)]; exact hd7
    · rw [ho15 6 (by decide)]; exact hd12
    · intro j hj
      rw [ho15 j (by lia), ho12 j (by lia), ho7 j (by lia)])
/-- two pairs with the same first item are compared by their ints -/
theorem pair_lt {w : World} {A : Around} {E : Value → Shared → Prop} {s : Shared} {a b : Addr} {x : Str} {t tp tq : Tok} {p q : Int} {Q : Value → Shared → Prop} (ha : s.heap.get? a = some (tup [.str x t, .int p tp])) (hb : s.heap.get? b = some (tup [.str x t, .int q tq])) (hu : A.units < cLine)
    (h : Q (.bool (decide (p < q))) s) : wpAny (model PG w) A (compareOp .Lt (.ref a) (.ref b)) Q E s := by
  have hTa : s.TypeIs (.ref a) "tuple" := ⟨_, ha, rfl⟩
  have hTb : s.TypeIs (.ref b) "tuple" := ⟨_, hb, rfl⟩
  refine cmp_ofLt (wpAny_richCompare_same_room hTa hTb F.slot_tuple_lt (wpAny_call_entry F.slot_tuple_lt hTa F.entry_tuple_lt ?_ (F.args_tuple_lt_2 _ _)) hu)
  show wpAny _ _ (isInstance (.ref b) (.type "tuple") >>= _) _ _ s
  refine wpAny_bind (wpAny_isInstance hTb isSubtype_tuple_tuple ?_)
  simp only [Bool.not_true, Bool.false_eq_true, if_false]
  refine wpAny_bind (wpAny_tupleItemsOf ha rfl ?_)
  refine wpAny_bind (wpAny_tupleItemsOf hb rfl ?_)
  have hz : ([Value.str x t, .int p tp].toArray.toList.zip [Value.str x t, .int q tq].toArray.toList) = [(.str x t, .str x t), (.int p tp, .int q tq)] := rfl
  rw [hz]
  refine wpAny_bind ?_
  rw [List.forIn_cons]
  refine wpAny_bind (wpAny_bind (SeqAt.EqAt.same (.str x t) PG w _ _ ?_))
  simp only [Bool.not_true, Bool.false_eq_true, if_false]
  refine wpAny_pure ?_
  dsimp only
  rw [List.forIn_cons]
  refine wpAny_bind (wpAny_bind (SeqAt.EqAt.int_int p tp q tq PG w _ _ ?_))
  by_cases e : p = q
  · subst e
    simp only [beq_self_eq_true, Bool.not_true, Bool.false_eq_true, if_false]
    refine wpAny_pure ?_
    dsimp only
    rw [List.forIn_nil]
    refine wpAny_pure ?_
    rw [decide_eq_false (Int.lt_irrefl p)] at h
    exact wpAny_pure ⟨_, rfl, ⟨(fun q => nomatch q), h⟩⟩
  · have e' : (p == q) = false := by simpa using e
    simp only [e', Bool.not_false, if_true]
    refine wpAny_bind (wpAny_rule ?_)
    refine wpAny_bind (show wpAny _ _ (compareOp .Lt (.int p tp) (.int q tq)) _ _ _ from PyProof.Rows.lt_int ?_)
    refine wpAny_bind (wpAny_pure (wpAny_pure ?_))
    dsimp only
    exact wpAny_pure (wpAny_pure ⟨_, rfl, ⟨(fun q => nomatch q), h⟩⟩)
def okAns (us : List Ans) (z : Item) : Prop := ∃ a ∈ us, z = (.ref a.at', a.port)
theorem cmp_ans {w : World} {us : List Ans} {host : Str} {th : Tok} : Cmp w (okAns us) (us.map (ansObj host th)) := by
  rintro _ _ ⟨a, ha, rfl⟩ ⟨b, hb, rfl⟩ A s Q E hu hT h
  exact pair_lt (hT _ (List.mem_map.mpr ⟨a, ha, rfl⟩)) (hT _ (List.mem_map.mpr ⟨b, hb, rfl⟩)) (by lia) (h s.toks)
def okInt (z : Item) : Prop := ∃ t, z.1 = .int z.2 t
theorem cmp_int {w : World} : Cmp w okInt [] := by
  rintro x y ⟨t, hx⟩ ⟨u, hy⟩ A s Q E hu hT h
  rw [hx, hy]
  exact PyProof.Rows.lt_int (h s.toks)
theorem mod_perm {st n : Nat} (hst : st = 1 ∨ st = 5 ∨ st = 7 ∨ st = 11) : ((List.range 12).map fun i => (i * st + n) % 12).Perm (List.range 12) := by
  have e : ((List.range 12).map fun i => (i * st + n) % 12) = (List.range 12).map fun i => (i * st + n % 12) % 12 := List.map_congr_left fun i _ => (Nat.add_mod_mod _ _ _).symm
  rw [e]
  have hn : n % 12 < 12 := Nat.mod_lt _ (by decide)
  generalize n % 12 = r at hn
  have key : ∀ r : Fin 12, ∀ st ∈ [1, 5, 7, 11], ((List.range 12).map fun i => (i * st + r.val) % 12).isPerm (List.range 12) = true := by decide +kernel
  exact List.isPerm_iff.mp (key ⟨r, hn⟩ st (by rcases hst with rfl | rfl | rfl | rfl <;> simp))
theorem drawn_perm {low st n : Nat} (hst : st = 1 ∨ st = 5 ∨ st = 7 ∨ st = 11) : (drawnOf low st n).Perm (List.range' low 12) := by
  unfold drawnOf
  have e : ((List.range 12).map fun i => low + (i * st + n) % 12) = (((List.range 12).map fun i => (i * st + n) % 12).map fun j => low + j) := by rw [List.map_map]; rfl
  rw [e, List.range'_eq_map_range]
  exact (mod_perm hst).map _
theorem iz_filter {ds : List Nat} {p : Nat → Bool} : (iz ds).filter (fun z => p z.toNat) = iz (ds.filter p) := by
  unfold iz
  rw [List.filter_map]
  rfl
section
variable {w : World} {A : Around} {E : Value → Shared → Prop} {s : Shared} {h₀ : Heap} {L l l2 : Addr} {news : List (Addr × Obj)} {vs ws : List Value} {n n2 : Nat} {Q : Value → Shared → Prop}
theorem all_true (k : Nat) : (List.range k).all (fun _ => true) = true := by simp
theorem ne_nil (N : News h₀ L s.heap news) (hl : (l, lst vs n) ∈ news) (hb : (l2, lst [] n2) ∈ news) (hu : A.units < cLine) (h : Q (.bool (!vs.isEmpty)) s) : wpAny (model PG w) A (compareOp .NotEq (.ref l) (.ref l2)) Q E s := by
  cases vs with
  | nil => exact SeqAt.RcNeAt.lists (e := fun _ => true) (m_isList N hl) (m_isList N hb) rfl hu (fun j h1 => absurd h1 (Nat.not_lt_zero _)) PG w E Q h
  | cons a r => exact SeqAt.RcNeAt.lists_lengths (m_isList N hl) (m_isList N hb) (by simp) hu PG w E Q h
theorem ints_eqAt {xs : List Int} {A' : Around} (h1 : IntsAre vs xs) (h2 : IntsAre ws xs) : ∀ j (q1 : j < vs.toArray.size) (q2 : j < ws.toArray.size), SeqAt.EqAt A' s vs.toArray[j] ws.toArray[j] true := by
  intro j q1 q2
  obtain ⟨hj, t, e1⟩ := ints_at h1 (i := j) (v := vs.toArray[j]) (by simp [List.getElem?_eq_getElem (by simpa using q1)])
  obtain ⟨_, u, e2⟩ := ints_at h2 (i := j) (v := ws.toArray[j]) (by simp [List.getElem?_eq_getElem (by simpa using q2)])
  rw [e1, e2]
  have := SeqAt.EqAt.int_int (A := A') (s := s) xs[j] t xs[j] u
  simpa using this
theorem ints_size {xs : List Int} (h1 : IntsAre vs xs) (h2 : IntsAre ws xs) : vs.toArray.size = ws.toArray.size := by
  rw [List.size_toArray, List.size_toArray, h1.length, h2.length]
theorem ne_ints {xs : List Int} (N : News h₀ L s.heap news) (hl : (l, lst vs n) ∈ news) (hb : (l2, lst ws n2) ∈ news) (h1 : IntsAre vs xs) (h2 : IntsAre ws xs) (hu : A.units < cLine) (h : Q (.bool false) s) : wpAny (model PG w) A (compareOp .NotEq (.ref l) (.ref l2)) Q E s :=
  SeqAt.RcNeAt.lists (e := fun _ => true) (m_isList N hl) (m_isList N hb) (ints_size h1 h2) hu (ints_eqAt h1 h2) PG w E Q (by rw [all_true]; exact h)
theorem eq_ints {xs : List Int} (N : News h₀ L s.heap news) (hl : (l, lst vs n) ∈ news) (hb : (l2, lst ws n2) ∈ news) (h1 : IntsAre vs xs) (h2 : IntsAre ws xs) (hu : A.units < cLine) (h : Q (.bool true) s) : wpAny (model PG w) A (compareOp .Eq (.ref l) (.ref l2)) Q E s :=
  SeqAt.RcAt.lists (e := fun _ => true) (m_isList N hl) (m_isList N hb) (ints_size h1 h2) hu (ints_eqAt h1 h2) PG w E Q (by rw [all_true]; exact h)
/-- two lists of refs to pairs, the same ports in the same order -/
theorem ne_pairs {host : Str} (N : News h₀ L s.heap news) (hl : (l, lst vs n) ∈ news) (hb : (l2, lst ws n2) ∈ news) (hsz : vs.length = ws.length) (hu : A.units + 4 < cLine)
    (hp : ∀ j (q1 : j < vs.length) (q2 : j < ws.length), ∃ a b p t u th tu, vs[j] = .ref a ∧ ws[j] = .ref b ∧ a ≠ b ∧ s.heap.get? a = some (tup [.str host th, .int p t]) ∧ s.heap.get? b = some (tup [.str host tu, .int p u]))
    (h : Q (.bool false) s) : wpAny (model PG w) A (compareOp .NotEq (.ref l) (.ref l2)) Q E s := by
  refine SeqAt.RcNeAt.lists (e := fun _ => true) (m_isList N hl) (m_isList N hb) (by simpa using hsz) (by lia) (fun j q1 q2 => ?_) PG w E Q (by rw [all_true]; exact h)
  refine cps fun P9 k9 => ?_
  obtain ⟨a, b, p, t, u, th, tu, e1, e2, hab, ha, hb'⟩ := hp j (by simpa using q1) (by simpa using q2)
  refine k9 ?_
  clear k9 P9
  have e1' : vs.toArray[j] = .ref a := by rw [← e1]; simp
  have e2' : ws.toArray[j] = .ref b := by rw [← e2]; simp
  rw [e1', e2']
  refine SeqAt.EqAt.of_refs hab ?_
  have := SeqAt.RcAt.tuples (A := A.in1) (s := s) (l := a) (b := b) (items := [Value.str host th, .int p t].toArray) (items2 := [Value.str host tu, .int p u].toArray) (e := fun _ => true) ⟨_, ha, rfl, 0, rfl⟩ ⟨_, hb', rfl, 0, rfl⟩ (by show A.units + 1 < cLine; lia) (fun j h1 h2 => ?_)
  · rw [all_true] at this
    exact this
  · have hj : j = 0 ∨ j = 1 := by simp at h1; lia
    rcases hj with rfl | rfl
    · have z := SeqAt.EqAt.str_str (A := A.in1.in1) (s := s) host th host tu
      simpa using z
    · have z := SeqAt.EqAt.int_int (A := A.in1.in1) (s := s) p t p u
      simpa using z
/-- a pair of two lists of ints, against another -/
theorem ne_two {T T2 a b c d : Addr} {v1 v2 v3 v4 : List Value} {k1 k2 k3 k4 : Nat} {xs ys : List Int} (N : News h₀ L s.heap news) (hT : (T, tup [.ref a, .ref b]) ∈ news) (hT2 : (T2, tup [.ref c, .ref d]) ∈ news) (ha : (a, lst v1 k1) ∈ news) (hb : (b, lst v2 k2) ∈ news) (hc : (c, lst v3 k3) ∈ news) (hd : (d, lst v4 k4) ∈ news)
    (hac : a ≠ c) (hbd : b ≠ d) (i1 : IntsAre v1 xs) (i2 : IntsAre v2 ys) (i3 : IntsAre v3 xs) (i4 : IntsAre v4 ys) (hu : A.units + 4 < cLine) (h : Q (.bool false) s) : wpAny (model PG w) A (compareOp .NotEq (.ref T) (.ref T2)) Q E s := by
  refine SeqAt.RcNeAt.tuples (items := [Value.ref a, .ref b].toArray) (items2 := [Value.ref c, .ref d].toArray) (e := fun _ => true) ⟨_, (N _ hT).1, rfl, 0, rfl⟩ ⟨_, (N _ hT2).1, rfl, 0, rfl⟩ (by lia) (fun j h1 h2 => ?_) PG w E Q (by rw [all_true]; exact h)
  have hj : j = 0 ∨ j = 1 := by simp at h1; lia
  rcases hj with rfl | rfl
  · refine SeqAt.EqAt.of_refs hac ?_
    have z := SeqAt.RcAt.lists (A := A.in1) (e := fun _ => true) (m_isList N ha) (m_isList N hc) (ints_size i1 i3) (by show A.units + 1 < cLine; lia) (ints_eqAt i1 i3)
    rw [all_true] at z
    exact z
  · refine SeqAt.EqAt.of_refs hbd ?_
    have z := SeqAt.RcAt.lists (A := A.in1) (e := fun _ => true) (m_isList N hb) (m_isList N hd) (ints_size i2 i4) (by show A.units + 1 < cLine; lia) (ints_eqAt i2 i4)
    rw [all_true] at z
    exact z
end
local macro_rules | `(tactic| walk_at "compareOp NotEq ref ref") => `(tactic| refine Stop.mk ?_)
local macro_rules | `(tactic| walk_at "compareOp Eq ref ref") => `(tactic| refine Stop.mk ?_)
theorem put_at {l : Addr} {o o' : Obj} {X Y : List (Addr × Obj)} (hX : ∀ p ∈ X, p.1 ≠ l) (hY : ∀ p ∈ Y, p.1 ≠ l) : ∀ p ∈ X ++ (l, o') :: Y, p ∈ put l o' (X ++ (l, o) :: Y) := all_app (fun p hp => mem_put (List.mem_append_left _ hp) (hX p hp)) (all_cons (put_mem) (fun p hp => mem_put (List.mem_append_right _ (List.mem_cons_of_mem _ hp)) (hY p hp)))
theorem ans_ne {h₀ h : Heap} {L l : Addr} {vs : List Value} {n : Nat} {host : Str} {th : Tok} {us : List Ans} {news : List (Addr × Obj)} (N : News h₀ L h news) (hl : (l, lst vs n) ∈ news) : ∀ p ∈ us.map (ansObj host th), p ∈ news → p.1 ≠ l := by
  intro p hp hpn e
  obtain ⟨x, _, rfl⟩ := List.mem_map.mp hp
  have z1 := (N _ hpn).1
  have z2 := (N _ hl).1
  rw [e, z2] at z1
  have z3 := Option.some.inj z1
  injection z3 with z3
  injection z3 with z3
  exact absurd z3 (by decide)
theorem told_ok {w : World} {A : Around} {h₀ : Heap} {L : Addr} {env : Env} {s : Shared} {m : Str → Option Value} {news : List (Addr × Obj)} {l : Addr} {ws : List Value} {dn W : List Nat} {n mk : Nat} {tm th : Tok} {host : Str} {Q E : Value → Shared → Prop}
    (G : Sit1 w A h₀ L env) (F : Fr h₀ L s.heap m) (N : News h₀ L s.heap news) (hd : A.depth + 4 < recursionLimit) (hu : A.units + 32 < cLine)
    (hl : (l, lst ws n) ∈ news) (hI : IntsAre ws (iz dn)) (hperm : dn.Perm W) (hW : W.length = 12) (hW8 : ∀ p ∈ W, p < 100000000) (hmk : mk < 10)
    (hret : ∀ t D (us : List Ans) k h' tk', Fr h₀ L h' m → News h₀ L h' ((D, lst (us.map fun x => Value.ref x.at') k) :: (us.map (ansObj host t) ++ news)) → (∀ p ∈ news, p.1 < D) →
      us.map (·.port) = iz (dn.filter (g mk)) → us.length ≤ 12 → Q (.ref D) { s with heap := h', toks := tk' }) :
    wpAny (model PG w) A (call (.ref 149) [.int mk tm, .ref l, .str host th]) Q E s := by
  refine told_spec (good := fun z => g mk z.toNat) G F N hd hu hl hI (by rw [iz_length, hperm.length_eq, hW]; decide) hmk ?_ (fun p _ => rfl) fun tl us k3 h3 tk3 F3 N3 hlt3 hus => ?_
  · intro p hp
    obtain ⟨q, hq, rfl⟩ := List.mem_map.mp hp
    have := hW8 q (hperm.mem_iff.mp hq)
    show 0 ≤ (q : Int) ∧ (q : Int) < 100000000
    lia
  · rw [iz_filter] at hus
    refine hret th tl us k3 h3 tk3 F3 N3 hlt3 hus ?_
    have e := congrArg List.length hus
    rw [List.length_map, iz_length] at e
    rw [e]
    exact Nat.le_trans (List.length_filter_le _ _) (by rw [hperm.length_eq, hW]; exact Nat.le_refl _)
theorem fsts_snoc (zs : List Item) (x : Item) : fsts (zs ++ [x]) = fsts zs ++ [x.1] := List.map_append ..
/-- how far the popping has come -/
structure PopInv (us : List Ans) (P0 : List Int) (total i : Nat) (zs out : List Item) : Prop where
  heap : HeapFrom 0 zs
  perm : (keys out ++ keys zs).Perm P0
  sorted : (keys out).Pairwise (· ≤ ·)
  le : ∀ a ∈ out, ∀ b ∈ zs, a.2 ≤ b.2
  len : zs.length + i = total
  okz : ∀ z ∈ zs, okAns us z
  oko : ∀ z ∈ out, okAns us z
  outl : out.length = i
theorem PopInv.step {us : List Ans} {P0 : List Int} {total i : Nat} {zs out : List Item} (H : PopInv us P0 total i zs out) (hi : i < total) : zs ≠ [] ∧ PopInv us P0 total (i + 1) (hpop zs).2 (out ++ [(hpop zs).1]) := by
  have hne : zs ≠ [] := fun e => by have := H.len; rw [e] at this; simp at this; lia
  refine cps fun P9 k9 => ?_
  obtain ⟨a, b, c, d, e⟩ := hpop_ok H.heap hne
  refine k9 ?_
  clear k9 P9
  have hl : (hpop zs).2.length + 1 = zs.length := by
    have := b.length_eq
    rw [List.length_cons, List.length_map, List.length_map] at this
    exact this
  have ek : keys (out ++ [(hpop zs).1]) = keys out ++ [(hpop zs).1.2] := List.map_append ..
  refine ⟨hne, a, ?_, ?_, ?_, ?_, fun z hz => H.okz z (d z hz), ?_, ?_⟩
  · rw [ek, List.append_assoc]
    exact (List.Perm.append_left (keys out) b).trans H.perm
  · rw [ek, List.pairwise_append]
    refine ⟨H.sorted, List.pairwise_singleton .., fun x hx y hy => ?_⟩
    obtain ⟨z, hz, rfl⟩ := List.mem_map.mp hx
    rw [List.mem_singleton.mp hy]
    exact H.le z hz _ c
  · intro x hx y hy
    rcases List.mem_append.mp hx with hx | hx
    · exact H.le x hx y (d y hy)
    · rw [List.mem_singleton.mp hx]
      exact e y (d y hy)
  · have := H.len; lia
  · intro z hz
    rcases List.mem_append.mp hz with hz | hz
    · exact H.oko z hz
    · rw [List.mem_singleton.mp hz]; exact H.okz _ c
  · rw [List.length_append, H.outl]; rfl
theorem sorted_eq {a b : List Int} (h : a.Perm b) (ha : a.Pairwise (· ≤ ·)) (hb : b.Pairwise (· ≤ ·)) : a = b := h.eq_of_pairwise (fun _ _ _ _ p q => Int.le_antisymm p q) ha hb
theorem iz_sorted {W : List Nat} (h : W.Pairwise (· < ·)) : (iz W).Pairwise (· ≤ ·) := by
  unfold iz
  rw [List.pairwise_map]
  exact h.imp fun q => by lia
theorem PopInv.fin {us : List Ans} {W dn : List Nat} {mk : Nat} {zs out : List Item} (H : PopInv us (iz (dn.filter (g mk))) (W.filter (g mk)).length (W.filter (g mk)).length zs out) (hperm : dn.Perm W) (hsort : W.Pairwise (· < ·)) : zs = [] ∧ keys out = iz (W.filter (g mk)) := by
  have hz : zs = [] := List.eq_nil_of_length_eq_zero (by have := H.len; lia)
  subst hz
  refine ⟨rfl, sorted_eq ?_ H.sorted (iz_sorted (hsort.filter _))⟩
  have h1 := H.perm
  have e : keys ([] : List Item) = [] := rfl
  rw [e, List.append_nil] at h1
  exact h1.trans ((hperm.filter _).map _)
set_option maxRecDepth 100000 in
set_option maxHeartbeats 4000000 in
theorem law_4 {w : World} {A : Around} {h₀ : Heap} {L f dr ol : Addr} {cd : Value} {s : Shared} {m : Str → Option Value} {dv ov : List Value} {W dn : List Nat} {mk dk ok : Nat} {tm : Tok} {vo : Value} {o : Nat → Obj} {R : List (Addr × Obj)} {Q : Flow → Shared → Prop}
    (G : Sit w A h₀ L) (G1 : Sit1 w A h₀ L (lawEnv L f cd)) (F : Fr h₀ L s.heap m) (hd : A.depth + 16 < recursionLimit) (hu : A.units + 128 < cLine)
    (hmk : mk < 10) (hperm : dn.Perm W) (hW : W.length = 12) (hW8 : ∀ p ∈ W, p < 100000000) (hsort : W.Pairwise (· < ·))
    (hdv : IntsAre dv (iz dn)) (hov : IntsAre ov (iz (W.filter (g mk)))) (hc5 : (o 5).data = .cell (some (.ref ol))) (hc8 : (o 8).data = .cell none)
    (hob : ∀ p ∈ R, L + 10 < p.1) (hdr : (dr, lst dv dk) ∈ R) (hol : (ol, lst ov ok) ∈ R)
    (hm : ∀ p ∈ [(Str.ofString "mark", .int (mk : Nat) tm), (Str.ofString "drawn", .ref dr), (Str.ofString "other", vo)], m p.1 = some p.2)
    (N : News h₀ L s.heap (cellsL L o ++ R))
    (K : ∀ th us out fs fl kf kz o' m' h' tk', keys out = iz (W.filter (g mk)) → (∀ z ∈ out, okAns us z) → (o' 8).data = .cell (some (.ref fl)) → (∀ j, j ≠ 8 → o' j = o j) → (∀ p ∈ R, p.1 < fl) → L + 10 < fl → fl < fs →
      m' (Str.ofString "firsts") = some (.ref fs) → m' (Str.ofString "drawn") = some (.ref dr) → m' (Str.ofString "other") = some vo → Fr h₀ L h' m' → News h₀ L h' (cellsL L o' ++ (fs, lst (fsts out) kf) :: (fl, lst [] kz) :: (us.map (ansObj (Str.ofString "h1") th) ++ R)) →
      wpAny (model PG w) A (execs (lawBody.drop 17) (lawEnv L f cd)) Q (fun _ _ => False) { s with heap := h', toks := tk' }) :
    wpAny (model PG w) A (execs (lawBody.drop 14) (lawEnv L f cd)) Q (fun _ _ => False) s := by
  have KX := G1.inn
  have hh := G1.hh
  refine cps fun P9 k9 => ?_
  obtain ⟨loose, mean, mg, mb, hloose, T⟩ := G1.top
  refine k9 ?_
  clear k9 P9
  have F' := fr_names _ F hm
  clear F
  dsimp only [kstB_cons, kstB_nil] at F'
  conv => pattern List.drop _ _; whnf
  unfold lawEnv
  conv => pattern lawScope; whnf
  w_on
  w_strict (
  k_steps
  (intro stop9; clear stop9)
  rename_i fl h1 F1 N1 hlt1
  have hLf : L + 10 < fl := cell_lt hlt1
  have hobf : ∀ p ∈ (fl, lst [] 0) :: R, L + 10 < p.1 := all_cons (hLf) (fun p hp => hob p hp)
  refine st_cell 8 none F1 (News.sub N1 (news' := cellsL L o ++ ((fl, lst [] 0) :: R)) (by (first | ((repeat' (first | (with_reducible refine all_cons ?_ ?_) | (with_reducible refine all_app ?_ ?_))) <;> (first | walk_at "member" | exact List.forall_mem_nil _ | (intro p hp; walk_at "member"))) | (intro p hp; (simp only [List.mem_cons, List.mem_append, List.not_mem_nil, or_false, List.nil_append, List.cons_append, List.append_nil] at hp ⊢); grind)))) hobf (by decide) (by decide) hc8 rfl rfl rfl fun h2 o2 ho2 hd2 F2 N2 => ?_
  clear N1 F1
  dsimp only
  k_steps
  (intro stop9; clear stop9)
  refine For_invVF F2 rfl rfl ?_
  k_steps
  (intro stop9; clear stop9)
  refine told_ok G1 F2 N2 (by walk_at "room") (by walk_at "room") (List.mem_append_right _ (List.mem_cons_of_mem _ hdr)) hdv hperm hW hW8 hmk fun th tl us k3 h3 tk3 F3 N3 hlt3 hus hul => ?_
  have hft : fl < tl := hlt3 (fl, lst [] 0) (List.mem_append_right _ List.mem_cons_self)
  have hRf : ∀ p ∈ R, p.1 ≠ fl := fun p hp => Nat.ne_of_lt (hlt1 p (List.mem_append_right _ hp))
  have hCf : ∀ p ∈ cellsL L o2, p.1 ≠ fl := fun p hp => Nat.ne_of_lt (Nat.lt_of_le_of_lt (cellsL_le p hp).2 hLf)
  have hTf : ∀ p ∈ us.map (ansObj (Str.ofString "h1") th), p.1 ≠ fl := fun p hp => ans_ne N3 (by walk_at "member") p hp (List.mem_cons_of_mem _ (List.mem_append_left _ hp))
  have hC := cmp_ans (w := w) (us := us) (host := Str.ofString "h1") (th := th)
  generalize hTU : us.map (ansObj (Str.ofString "h1") th) = TU at N3 hTf hC
  k_steps
  (intro stop9; clear stop9)
  have N4 : News h₀ L h3 (cellsL L o2 ++ (fl, lst (fsts []) 0) :: ((tl, lst (us.map fun x => Value.ref x.at') k3) :: (TU ++ R))) := News.sub N3 (by (first | ((repeat' (first | (with_reducible refine all_cons ?_ ?_) | (with_reducible refine all_app ?_ ?_))) <;> (first | walk_at "member" | exact List.forall_mem_nil _ | (intro p hp; walk_at "member"))) | (intro p hp; (simp only [List.mem_cons, List.mem_append, List.not_mem_nil, or_false, List.nil_append, List.cons_append, List.append_nil] at hp ⊢); grind)))
  clear N3
  refine list_start (l := tl) (vs := us.map fun x => Value.ref x.at') (n := k3) F3 N4 (by walk_at "member") fun I h5 F5 N5 hlt5 hLI hI0 hIs hIt hIl => ?_
  have htI : tl < I := hlt5 (tl, lst (us.map fun x => Value.ref x.at') k3) (by walk_at "member")
  have hLt : L + 10 < tl := Nat.lt_trans hLf hft
  refine' loop_at (σ := List Item × Nat) (Walks.list (prog := PG) (w := w) hh I tl (Nat.ne_of_lt htI) (us.map fun x => Value.ref x.at').toArray) (fun c => cellsL L o2 ++ (fl, lst (fsts c.1) c.2) :: ((tl, lst (us.map fun x => Value.ref x.at') k3) :: (TU ++ R))) (fun _ => []) [Str.ofString "answer"]
    (fun i c => i ≤ us.length ∧ HeapFrom 0 c.1 ∧ (keys c.1).Perm ((us.take i).map (·.port)) ∧ ∀ z ∈ c.1, okAns us z) ([], 0) ?_ (by simpa using hI0) ⟨hIt, hIl⟩ F5 N5 ?_ (fun _ h => nomatch h) ⟨Nat.zero_le _, heap_nil, .refl _, fun _ h => nomatch h⟩ ?_ ?_
  · intro hq
    rcases List.mem_cons.mp hq with q | q
    · exact hLI q
    · exact Nat.lt_irrefl _ (Nat.lt_of_le_of_lt (Nat.le_add_right L 10) ((show L = tl from List.mem_singleton.mp q) ▸ hLt))
  · rintro i c - p hp hq
    have hq := List.mem_singleton.mp hq
    have hlt : p.1 < I := by
      rcases List.mem_append.mp hp with hp | hp
      · exact hlt5 p (List.mem_append_left _ hp)
      rcases List.mem_cons.mp hp with rfl | hp
      · exact Nat.lt_trans hft htI
      · exact hlt5 p (List.mem_append_right _ (List.mem_cons_of_mem _ hp))
    exact Nat.ne_of_lt hlt hq
  · intro i
    refine fa2 fun zs kz => ?_
    intro v u h6 tk6 own hi hv hq hown _ _ F7 N7
    dsimp only at hq N7
    refine an4 hq fun q1 q2 q3 q4 => ?_
    clear hq
    dsimp only [kstB_cons, kstB_nil] at F7
    (try k_fold)
    have hi' : i < us.length := by simpa using hi
    obtain rfl : v = .ref (us[i]).at' := by
      have : (us.map fun x => Value.ref x.at')[i]? = some v := by simpa using hv
      rw [List.getElem?_map, List.getElem?_eq_getElem hi'] at this
      exact (Option.some.inj this).symm
    have hzl : zs.length ≤ 12 := by
      have := q3.length_eq
      rw [List.length_map, List.length_map, List.length_take] at this
      lia
    have hOwn : ∀ p ∈ own ++ cellsL L o2, p.1 ≠ fl := fun p hp => by
      rcases List.mem_append.mp hp with hp | hp
      · rcases List.mem_cons.mp (hown p hp) with q | q
        · rw [q]; exact Nat.ne_of_gt (Nat.lt_trans hft htI)
        · rw [List.mem_singleton.mp q]; exact Nat.ne_of_gt hft
      · exact hCf p hp
    have hRest : ∀ p ∈ (tl, lst (us.map fun x => Value.ref x.at') k3) :: (TU ++ R), p.1 ≠ fl := all_cons (Nat.ne_of_gt hft) (all_app (fun p hp => hTf p hp) (fun p hp => hRf p hp))
    k_steps
    (intro stop9; clear stop9)
    refine heappush_spec (x := (.ref (us[i]).at', (us[i]).port)) (Ok := okAns us) (tups := TU) (zs := zs) (n := kz) G F7 N7 (by walk_at "room") (by walk_at "room") (by walk_at "member") (by lia) hC q4 ⟨us[i], List.getElem_mem _, rfl⟩ (fun p hp => ⟨List.mem_append_right _ (List.mem_append_right _ (List.mem_cons_of_mem _ (List.mem_cons_of_mem _ (List.mem_append_left _ hp)))), hTf p hp⟩) fun h8 tk8 n8 F8 N8 => ?_
    k_steps
    refine for_end (hpush zs (.ref (us[i]).at', (us[i]).port), n8) F8 N8 ?_ (fun _ h => nomatch h) (by (intro z h1 h2 h3; first | rfl | ((simp only [List.forall_mem_cons, List.not_mem_nil, false_implies, implies_true, and_true, ne_eq] at h2); (simp only [List.contains_cons, List.contains_nil, Bool.or_false, Bool.or_eq_false_iff, beq_eq_false_iff_ne, ne_eq] at h3); (simp [h1, h2, h3]; done)) | ((simp only [List.forall_mem_cons, List.not_mem_nil, false_implies, implies_true, and_true, ne_eq] at h2); (simp [h1, h2]; done)) | (simp [h1]; done) | ((simp only [List.contains_cons, List.contains_nil, Bool.or_false, Bool.or_eq_false_iff, beq_eq_false_iff_ne, ne_eq] at h3); (simp [h1, h3]; done)))) ⟨hi', hpush_heap q2, ?_, ?_⟩
    · rw [← List.append_assoc, ← List.append_assoc]
      exact put_at hOwn hRest
    · refine hpush_perm.trans ?_
      rw [List.take_succ_eq_append_getElem hi', List.map_append]
      exact (List.Perm.cons _ q3).trans (List.perm_append_comm (l₁ := [us[i].port]))
    · intro z hz
      rcases hpush_mem z hz with rfl | hz
      · exact ⟨us[i], List.getElem_mem _, rfl⟩
      · exact q4 z hz
  · rintro ⟨zs, kz⟩ u h6 tk6 ⟨q1, q2, q3, q4⟩ F7 N7
    dsimp only at q1 q2 q3 q4 N7
    dsimp only [kstB_cons, kstB_nil] at F7
    (try k_fold)
    rw [List.size_toArray, List.length_map, List.take_length, hus] at q3
    have htot : zs.length = (W.filter (g mk)).length := by
      have e1 := q3.length_eq
      rw [List.length_map, iz_length, (hperm.filter _).length_eq] at e1
      exact e1
    have hwl : (W.filter (g mk)).length ≤ 12 := by rw [← hW]; exact List.length_filter_le _ _
    have hovl : ov.length = (W.filter (g mk)).length := by rw [hov.length, iz_length]
    have hc5' : (o2 5).data = .cell (some (.ref ol)) := by rw [ho2 5 (by decide)]; exact hc5
    have hRest : ∀ p ∈ (tl, lst (us.map fun x => Value.ref x.at') k3) :: (TU ++ R), p.1 ≠ fl := all_cons (Nat.ne_of_gt hft) (all_app (fun p hp => hTf p hp) (fun p hp => hRf p hp))
    k_steps
    (intro stop9; clear stop9)
    refine assign_listcomp_start _ (by with_unfolding_all rfl) (by with_unfolding_all rfl) rfl (by decide) ?_
    k_steps
    refine lc_assign (L := L) (l := ol) (vs := ov) (n := ok) hh F7 N7 (by walk_at "member") (σ := List Item × Nat × List Item) (fun c => cellsL L o2 ++ (fl, lst (fsts c.1) c.2.1) :: ((tl, lst (us.map fun x => Value.ref x.at') k3) :: (TU ++ R)))
      (fun i c ys => PopInv us (iz (dn.filter (g mk))) (W.filter (g mk)).length i c.1 c.2.2 ∧ ys = fsts c.2.2) (zs, kz, []) (fun _ h => h) ?_ ⟨⟨q2, q3, List.Pairwise.nil, (fun _ h => nomatch h), htot, q4, (fun _ h => nomatch h), rfl⟩, rfl⟩ ?_ (by decide) rfl rfl rfl rfl rfl ?_ ?_
    · rintro i c ys - p hp
      rcases List.mem_append.mp hp with hp | hp
      · exact ⟨p, List.mem_append_left _ hp, rfl⟩
      rcases List.mem_cons.mp hp with rfl | hp
      · exact ⟨(fl, lst (fsts zs) kz), List.mem_append_right _ List.mem_cons_self, rfl⟩
      · exact ⟨p, List.mem_append_right _ (List.mem_cons_of_mem _ hp), rfl⟩
    · intro i
      refine fa3 fun z1 k1 o1 => ?_
      rintro ys ⟨H, rfl⟩
      have h1 := H.len
      have h2 := H.outl
      dsimp only at h1 h2
      show (List.map _ o1).length ≤ 1000
      rw [List.length_map]
      lia
    · intro i
      refine fa3 fun z1 k1 o1 => ?_
      rintro ys v h9 tk9 C oC mC X hi hv ⟨H, rfl⟩ hO hmx hX F9 N9
      dsimp only at H N9
      rw [hovl] at hi
      obtain ⟨hne, H'⟩ := H.step hi
      have hzl : z1.length ≤ 12 := by have := H.len; lia
      have hX' : ∀ p ∈ ((C, oC) :: X) ++ cellsL L o2, p.1 ≠ fl := fun p hp => by
        rcases List.mem_append.mp hp with hp | hp
        · rcases hX p hp with q | q
          · rw [q]; exact Nat.ne_of_lt (hlt1 (ol, lst ov ok) (List.mem_append_right _ hol))
          · exact Nat.ne_of_gt (q (fl, lst (fsts zs) kz) (List.mem_append_right _ List.mem_cons_self))
        · exact hCf p hp
      k_steps
      (intro stop9; clear stop9)
      rename_i l10 h10 F10 N10 hl10
      refine ne_nil (vs := fsts z1) (n := k1) (n2 := 0) N10 (by walk_at "member") List.mem_cons_self (by lia) ?_
      rw [show (!(fsts z1).isEmpty) = true by cases z1 with
        | nil => exact absurd rfl hne
        | cons => rfl]
      k_steps
      (intro stop9; clear stop9)
      have hl10f : l10 ≠ fl := Nat.ne_of_gt (hl10 (fl, lst (fsts z1) k1) (by walk_at "member"))
      refine heappop_spec (Ok := okAns us) (tups := TU) (zs := z1) (n := k1) G F10 N10 (by walk_at "room") (by walk_at "room") (by walk_at "member") (by lia) hne hC H.okz (fun p hp => ⟨List.mem_cons_of_mem _ (List.mem_append_right _ (List.mem_append_right _ (List.mem_cons_of_mem _ (List.mem_cons_of_mem _ (List.mem_append_left _ hp))))), hTf p hp⟩) fun h11 tk11 n11 F11 N11 => ?_
      k_steps
      refine c_end ((hpop z1).2, n11, o1 ++ [(hpop z1).1]) F11 N11 ?_ ⟨H', (fsts_snoc o1 (hpop z1).1).symm⟩
      intro p hp
      have z := put_at (l := fl) (o := lst (fsts z1) k1) (o' := lst (fsts (hpop z1).2) n11) (X := (l10, lst [] 0) :: (((C, oC) :: X) ++ cellsL L o2)) (Y := (tl, lst (us.map fun x => Value.ref x.at') k3) :: (TU ++ R)) (fun q hq => ?_) hRest p ?_
      · rw [List.cons_append, List.append_assoc] at z
        exact z
      · rcases List.mem_cons.mp hq with rfl | hq
        · exact hl10f
        · exact hX' q hq
      · rw [List.cons_append, List.append_assoc]
        exact List.mem_cons_of_mem _ hp
    · intro fs
      refine fa3 fun z1 k1 o1 => ?_
      rintro ys h9 tk9 k9 ⟨H, rfl⟩ F9 N9 hlt9
      dsimp only at H N9 ⊢
      rw [hovl] at H
      obtain ⟨rfl, hko⟩ := H.fin hperm hsort
      have hff : fl < fs := hlt9 (fl, lst (fsts zs) kz) (by walk_at "member")
      refine K th us o1 fs fl k9 k1 o2 _ h9 _ hko H.oko hd2 ho2 (fun p hp => hlt1 p (List.mem_append_right _ hp)) hLf hff (by with_unfolding_all rfl) (by with_unfolding_all rfl) (by with_unfolding_all rfl) F9 (News.sub N9 ?_)
      rw [hTU]
      intro p hp
      rcases List.mem_append.mp hp with hp | hp
      · exact List.mem_cons_of_mem _ (List.mem_append_left _ hp)
      rcases List.mem_cons.mp hp with rfl | hp
      · exact List.mem_cons_self
      refine List.mem_cons_of_mem _ (List.mem_append_right _ ?_)
      rcases List.mem_cons.mp hp with rfl | hp
      · exact List.mem_cons_self
      · exact List.mem_cons_of_mem _ (List.mem_cons_of_mem _ hp))
/-- a store into a cell, the other things lying elsewhere -/
theorem st_cellN {w : World} {A : Around} {E : Value → Shared → Prop} {s : Shared} {env : Env} {h₀ : Heap} {L : Addr} {m : Str → Option Value} {o : Nat → Obj} {objs : List (Addr × Obj)} {x : Str} {v : Value} {Q : Unit → Shared → Prop} (i : Nat) (v₀ : Option Value)
    (F : Fr h₀ L s.heap m) (N : News h₀ L s.heap (cellsL L o ++ objs)) (hob : ∀ p ∈ objs, p.1 ≠ L + i) (h1 : 1 ≤ i) (h2 : i ≤ 10) (hd : (o i).data = .cell v₀)
    (hk : env.scope.kind = .function) (hx : env.kindOf x = some .cell) (hc : env.cells.lookup x = some (L + i))
    (h : ∀ h' o', (∀ j, j ≠ i → o' j = o j) → (o' i).data = .cell (some v) → Fr h₀ L h' m → News h₀ L h' (cellsL L o' ++ objs) → Q () { s with heap := h' }) :
    wpAny (model PG w) A (storeName env x v) Q E s := by
  have z := N (L + i, o i) (List.mem_append_left _ (cellsL_mem h1 h2))
  refine wpAny_storeName_cell hk hx hc ⟨_, z.1, hd⟩ fun h' hcell hs => ?_
  obtain ⟨oc, hoc, hdc⟩ := hcell
  refine h h' (fun j => if j = i then oc else o j) (fun j hj => if_neg hj) (by rw [if_pos rfl]; exact hdc) (F.change hs z.2.1 z.2.2) fun p hp => ?_
  rcases List.mem_append.mp hp with hp | hp
  · obtain ⟨j, a, b, rfl⟩ := cellsL_at p hp
    have y := N (L + j, o j) (List.mem_append_left _ (cellsL_mem a b))
    by_cases e : j = i
    · subst e
      rw [if_pos rfl]
      exact ⟨hoc, z.2⟩
    · rw [if_neg e]
      exact ⟨hs.extBut _ _ (fun q => e (Nat.add_left_cancel q)) y.1, y.2⟩
  · have y := N p (List.mem_append_right _ hp)
    exact ⟨hs.extBut _ _ (hob p hp) y.1, y.2⟩
theorem ans_neC {h₀ h : Heap} {L c : Addr} {oc : Obj} {v : Option Value} {host : Str} {th : Tok} {us : List Ans} {news : List (Addr × Obj)} (N : News h₀ L h news) (hl : (c, oc) ∈ news) (hd : oc.data = .cell v) : ∀ p ∈ us.map (ansObj host th), p ∈ news → p.1 ≠ c := by
  intro p hp hpn e
  obtain ⟨x, _, rfl⟩ := List.mem_map.mp hp
  have z1 := (N _ hpn).1
  have z2 := (N _ hl).1
  rw [e, z2] at z1
  have z3 : oc = tup [.str host th, .int x.port x.tp] := Option.some.inj z1
  rw [z3] at hd
  cases hd
theorem fsts_ans (us : List Ans) : (us.map fun x => Value.ref x.at') = fsts (us.map fun x => ((.ref x.at', x.port) : Item)) := by
  show _ = List.map _ (List.map _ us)
  rw [List.map_map]; rfl
theorem keys_ans (us : List Ans) : keys (us.map fun x => ((.ref x.at', x.port) : Item)) = us.map (·.port) := by
  show List.map _ (List.map _ us) = _
  rw [List.map_map]; rfl
theorem ok_ans (us : List Ans) : ∀ z ∈ us.map (fun x => ((.ref x.at', x.port) : Item)), okAns us z := fun z hz => by
  obtain ⟨a, ha, rfl⟩ := List.mem_map.mp hz
  exact ⟨a, ha, rfl⟩
set_option maxRecDepth 100000 in
set_option maxHeartbeats 4000000 in
theorem law_5 {w : World} {A : Around} {h₀ : Heap} {L f dr ol : Addr} {cd : Value} {s : Shared} {m : Str → Option Value} {dv ov : List Value} {W dn : List Nat} {mk dk ok : Nat} {tm : Tok} {vo : Value} {o : Nat → Obj} {R : List (Addr × Obj)} {Q : Flow → Shared → Prop}
    (G : Sit w A h₀ L) (G1 : Sit1 w A h₀ L (lawEnv L f cd)) (F : Fr h₀ L s.heap m) (hd : A.depth + 16 < recursionLimit) (hu : A.units + 128 < cLine)
    (hmk : mk < 10) (hperm : dn.Perm W) (hW : W.length = 12) (hW8 : ∀ p ∈ W, p < 100000000) (hsort : W.Pairwise (· < ·))
    (hdv : IntsAre dv (iz dn)) (hov : IntsAre ov (iz (W.filter (g mk)))) (hc6 : (o 6).data = .cell (some (.ref ol))) (hc9 : (o 9).data = .cell none)
    (hob : ∀ p ∈ R, p.1 ≠ L + 9) (hdr : (dr, lst dv dk) ∈ R) (hol : (ol, lst ov ok) ∈ R)
    (hm : ∀ p ∈ [(Str.ofString "other", .int (mk : Nat) tm), (Str.ofString "drawn", .ref dr), (Str.ofString "firsts", vo)], m p.1 = some p.2)
    (N : News h₀ L s.heap (cellsL L o ++ R))
    (K : ∀ th us out fs fl kf kz o' m' h' tk', keys out = iz (W.filter (g mk)) → (∀ z ∈ out, okAns us z) → (o' 9).data = .cell (some (.ref fl)) → (∀ j, j ≠ 9 → o' j = o j) → (∀ p ∈ R, p.1 < fl) → L + 10 < fl → fl < fs →
      m' (Str.ofString "seconds") = some (.ref fs) → m' (Str.ofString "firsts") = some vo → Fr h₀ L h' m' → News h₀ L h' (cellsL L o' ++ (fs, lst (fsts out) kf) :: (fl, lst [] kz) :: (us.map (ansObj (Str.ofString "h2") th) ++ R)) →
      wpAny (model PG w) A (execs (lawBody.drop 20) (lawEnv L f cd)) Q (fun _ _ => False) { s with heap := h', toks := tk' }) :
    wpAny (model PG w) A (execs (lawBody.drop 17) (lawEnv L f cd)) Q (fun _ _ => False) s := by
  have KX := G1.inn
  have hh := G1.hh
  refine cps fun P9 k9 => ?_
  obtain ⟨loose, mean, mg, mb, hloose, T⟩ := G1.top
  refine k9 ?_
  clear k9 P9
  have F' := fr_names _ F hm
  clear F
  dsimp only [kstB_cons, kstB_nil] at F'
  conv => pattern List.drop _ _; whnf
  unfold lawEnv
  conv => pattern lawScope; whnf
  w_on
  w_strict (
  k_steps
  (intro stop9; clear stop9)
  refine told_ok G1 F' N (by walk_at "room") (by walk_at "room") (List.mem_append_right _ hdr) hdv hperm hW hW8 hmk fun th fl us k3 h3 tk3 F3 N3 hlt3 hus hul => ?_
  have hLf : L + 10 < fl := cell_lt hlt3
  have hRf : ∀ p ∈ R, p.1 ≠ fl := fun p hp => Nat.ne_of_lt (hlt3 p (List.mem_append_right _ hp))
  have hTf : ∀ p ∈ us.map (ansObj (Str.ofString "h2") th), p.1 ≠ fl := fun p hp => ans_ne N3 (by walk_at "member") p hp (List.mem_cons_of_mem _ (List.mem_append_left _ hp))
  have hC := cmp_ans (w := w) (us := us) (host := Str.ofString "h2") (th := th)
  have hTL : ∀ p ∈ us.map (ansObj (Str.ofString "h2") th), p.1 ≠ L + 9 := fun p hp => ans_neC N3 (oc := o 9) (List.mem_cons_of_mem _ (List.mem_append_right _ mem_c9)) hc9 p hp (List.mem_cons_of_mem _ (List.mem_append_left _ hp))
  generalize hTU : us.map (ansObj (Str.ofString "h2") th) = TU at N3 hTf hC hTL
  rw [fsts_ans] at N3
  generalize hZ : us.map (fun x => ((.ref x.at', x.port) : Item)) = Z at N3
  have N4 : News h₀ L h3 (cellsL L o ++ (fl, lst (fsts Z) k3) :: (TU ++ R)) := News.sub N3 (by (first | ((repeat' (first | (with_reducible refine all_cons ?_ ?_) | (with_reducible refine all_app ?_ ?_))) <;> (first | walk_at "member" | exact List.forall_mem_nil _ | (intro p hp; walk_at "member"))) | (intro p hp; (simp only [List.mem_cons, List.mem_append, List.not_mem_nil, or_false, List.nil_append, List.cons_append, List.append_nil] at hp ⊢); grind)))
  clear N3
  have hobf : ∀ p ∈ (fl, lst (fsts Z) k3) :: (TU ++ R), p.1 ≠ L + 9 := all_cons (Nat.ne_of_gt (Nat.lt_of_le_of_lt (Nat.add_le_add_left (by decide) _) hLf)) (all_app (fun p hp => hTL p hp) (fun p hp => hob p hp))
  k_steps
  (intro stop9; clear stop9)
  refine st_cellN 9 none F3 N4 hobf (by decide) (by decide) hc9 rfl rfl rfl fun h2 o2 ho2 hd2 F2 N2 => ?_
  dsimp only
  k_steps
  (intro stop9; clear stop9)
  have hZl : Z.length ≤ 12 := by rw [← hZ, List.length_map]; exact hul
  have hZo : ∀ z ∈ Z, okAns us z := by rw [← hZ]; exact ok_ans us
  have hZk : keys Z = iz (dn.filter (g mk)) := by rw [← hZ, keys_ans]; exact hus
  have hCf : ∀ p ∈ cellsL L o2, p.1 ≠ fl := fun p hp => Nat.ne_of_lt (Nat.lt_of_le_of_lt (cellsL_le p hp).2 hLf)
  have hRest : ∀ p ∈ TU ++ R, p.1 ≠ fl := all_app (fun p hp => hTf p hp) (fun p hp => hRf p hp)
  refine heapify_spec (Ok := okAns us) (tups := TU) (zs := Z) (n := k3) G F2 N2 (by walk_at "room") (by walk_at "room") (by walk_at "member") (by lia) hC hZo (fun p hp => ⟨List.mem_append_right _ (List.mem_cons_of_mem _ (List.mem_append_left _ hp)), hTf p hp⟩) fun h7 tk7 kz F7 N7 => ?_
  obtain ⟨q2, q3', q4'⟩ := hfy_heap (Z.length / 2) Z (Nat.div_le_self _ _) (heap_half Z)
  generalize hfy (Z.length / 2) Z = zs at q2 q3' q4' N7
  have q3 : (keys zs).Perm (iz (dn.filter (g mk))) := by rw [← hZk]; exact q3'
  have q4 : ∀ z ∈ zs, okAns us z := fun z hz => hZo z (q4' z hz)
  have N8 : News h₀ L h7 (cellsL L o2 ++ (fl, lst (fsts zs) kz) :: (TU ++ R)) := News.sub N7 (put_at hCf hRest)
  clear N7
  have htot : zs.length = (W.filter (g mk)).length := by
    have e1 := q3.length_eq
    rw [List.length_map, iz_length, (hperm.filter _).length_eq] at e1
    exact e1
  have hwl : (W.filter (g mk)).length ≤ 12 := by rw [← hW]; exact List.length_filter_le _ _
  have hovl : ov.length = (W.filter (g mk)).length := by rw [hov.length, iz_length]
  have hc6' : (o2 6).data = .cell (some (.ref ol)) := by rw [ho2 6 (by decide)]; exact hc6
  k_steps
  (intro stop9; clear stop9)
  refine assign_listcomp_start _ (by with_unfolding_all rfl) (by with_unfolding_all rfl) rfl (by decide) ?_
  k_steps
  refine lc_assign (L := L) (l := ol) (vs := ov) (n := ok) hh F7 N8 (by walk_at "member") (σ := List Item × Nat × List Item) (fun c => cellsL L o2 ++ (fl, lst (fsts c.1) c.2.1) :: (TU ++ R))
    (fun i c ys => PopInv us (iz (dn.filter (g mk))) (W.filter (g mk)).length i c.1 c.2.2 ∧ ys = fsts c.2.2) (zs, kz, []) (fun _ h => h) ?_ ⟨⟨q2, q3, List.Pairwise.nil, (fun _ h => nomatch h), htot, q4, (fun _ h => nomatch h), rfl⟩, rfl⟩ ?_ (by decide) rfl rfl rfl rfl rfl ?_ ?_
  · rintro i c ys - p hp
    rcases List.mem_append.mp hp with hp | hp
    · exact ⟨p, List.mem_append_left _ hp, rfl⟩
    rcases List.mem_cons.mp hp with rfl | hp
    · exact ⟨(fl, lst (fsts zs) kz), List.mem_append_right _ List.mem_cons_self, rfl⟩
    · exact ⟨p, List.mem_append_right _ (List.mem_cons_of_mem _ hp), rfl⟩
  · intro i
    refine fa3 fun z1 k1 o1 => ?_
    rintro ys ⟨H, rfl⟩
    have h1 := H.len
    have h2 := H.outl
    dsimp only at h1 h2
    show (List.map _ o1).length ≤ 1000
    rw [List.length_map]
    lia
  · intro i
    refine fa3 fun z1 k1 o1 => ?_
    rintro ys v h9 tk9 C oC mC X hi hv ⟨H, rfl⟩ hO hmx hX F9 N9
    dsimp only at H N9
    rw [hovl] at hi
    obtain ⟨hne, H'⟩ := H.step hi
    have hzl : z1.length ≤ 12 := by have := H.len; lia
    have hX' : ∀ p ∈ ((C, oC) :: X) ++ cellsL L o2, p.1 ≠ fl := fun p hp => by
      rcases List.mem_append.mp hp with hp | hp
      · rcases hX p hp with q | q
        · rw [q]; exact Nat.ne_of_lt (hlt3 (ol, lst ov ok) (List.mem_append_right _ hol))
        · exact Nat.ne_of_gt (q (fl, lst (fsts zs) kz) (List.mem_append_right _ List.mem_cons_self))
      · exact hCf p hp
    k_steps
    (intro stop9; clear stop9)
    rename_i l10 h10 F10 N10 hl10
    refine ne_nil (vs := fsts z1) (n := k1) (n2 := 0) N10 (by walk_at "member") List.mem_cons_self (by lia) ?_
    rw [show (!(fsts z1).isEmpty) = true by cases z1 with
      | nil => exact absurd rfl hne
      | cons => rfl]
    k_steps
    (intro stop9; clear stop9)
    have hl10f : l10 ≠ fl := Nat.ne_of_gt (hl10 (fl, lst (fsts z1) k1) (by walk_at "member"))
    refine heappop_spec (Ok := okAns us) (tups := TU) (zs := z1) (n := k1) G F10 N10 (by walk_at "room") (by walk_at "room") (by walk_at "member") (by lia) hne hC H.okz (fun p hp => ⟨List.mem_cons_of_mem _ (List.mem_append_right _ (List.mem_append_right _ (List.mem_cons_of_mem _ (List.mem_append_left _ hp)))), hTf p hp⟩) fun h11 tk11 n11 F11 N11 => ?_
    k_steps
    refine c_end ((hpop z1).2, n11, o1 ++ [(hpop z1).1]) F11 N11 ?_ ⟨H', (fsts_snoc o1 (hpop z1).1).symm⟩
    intro p hp
    have z := put_at (l := fl) (o := lst (fsts z1) k1) (o' := lst (fsts (hpop z1).2) n11) (X := (l10, lst [] 0) :: (((C, oC) :: X) ++ cellsL L o2)) (Y := TU ++ R) (fun q hq => ?_) hRest p ?_
    · rw [List.cons_append, List.append_assoc] at z
      exact z
    · rcases List.mem_cons.mp hq with rfl | hq
      · exact hl10f
      · exact hX' q hq
    · rw [List.cons_append, List.append_assoc]
      exact List.mem_cons_of_mem _ hp
  · intro fs
    refine fa3 fun z1 k1 o1 => ?_
    rintro ys h9 tk9 k9 ⟨H, rfl⟩ F9 N9 hlt9
    dsimp only at H N9 ⊢
    rw [hovl] at H
    obtain ⟨rfl, hko⟩ := H.fin hperm hsort
    have hff : fl < fs := hlt9 (fl, lst (fsts zs) kz) (by walk_at "member")
    refine K th us o1 fs fl k9 k1 o2 _ h9 _ hko H.oko hd2 ho2 (fun p hp => hlt3 p (List.mem_append_right _ hp)) hLf hff (by with_unfolding_all rfl) (by with_unfolding_all rfl) F9 (News.sub N9 ?_)
    rw [hTU]
    intro p hp
    rcases List.mem_append.mp hp with hp | hp
    · exact List.mem_cons_of_mem _ (List.mem_append_left _ hp)
    rcases List.mem_cons.mp hp with rfl | hp
    · exact List.mem_cons_self
    refine List.mem_cons_of_mem _ (List.mem_append_right _ ?_)
    rcases List.mem_cons.mp hp with rfl | hp
    · exact List.mem_cons_self
    · exact List.mem_cons_of_mem _ hp)
section
variable {w : World} {A : Around} {E : Value → Shared → Prop} {s : Shared} {env : Env} {h₀ : Heap} {L l : Addr} {m : Str → Option Value} {news : List (Addr × Obj)} {elt iter : PySem.Expr} {x : Str} {px : Pos} {ifs : List PySem.Expr} {scope : Scope} {cl : List (Str × Addr)} {pos : Pos} {σ : Type} {vs : List Value} {n : Nat}
/-- one turn of a comprehension that keeps new things: all of them lie above b -/
def LTurnB (w : World) (A : Around) (s : Shared) (env : Env) (h₀ : Heap) (L l : Addr) (m : Str → Option Value) (news : List (Addr × Obj)) (elt : PySem.Expr) (x : Str) (ifs : List PySem.Expr) (scope : Scope) (cl : List (Str × Addr)) (N : Nat) (P : Nat → Value → Prop) {σ : Type} (Led : σ → List (Addr × Obj)) (b : Addr) (Inv : Nat → σ → List Value → Prop) : Prop :=
  ∀ i c ys v h tk oC mC X, i < N → P i v → Inv i c ys → NsO oC mC → mC x = some v → (∀ p ∈ (b, oC) :: X, p.1 = l ∨ ∀ q ∈ news, q.1 < p.1) → Fr h₀ L h m → News h₀ L h (((b, oC) :: X) ++ Led c) →
    wpAny (model PG w) A (testsOf ifs (compEnvC scope cl b env))
      (fun ok s₃ => if ok = true then wpAny (model PG w) A (eval elt (compEnvC scope cl b env)) (fun y s₄ => CEnd h₀ L m s Led Inv (i + 1) ((b, oC) :: X) (ys ++ [y]) s₄) (fun _ _ => False) s₃
        else CEnd h₀ L m s Led Inv (i + 1) ((b, oC) :: X) ys s₃) (fun _ _ => False) { s with heap := h, toks := tk }
theorem lturnB {h' : Heap} {I : Addr} {fp : List Addr} {N : Nat} {P : Nat → Value → Prop} {Led : σ → List (Addr × Obj)} {Inv : Nat → σ → List Value → Prop} (hlt : ∀ p ∈ news, p.1 < I) (hIs : I < h'.objs.size) (hfp : ∀ b ∈ fp, b = I ∨ b = l)
    (turn : LTurnB w A s env h₀ L l m news elt x ifs scope cl N P Led (h'.objs.size + 1) Inv) : CompTurn w A { s with heap := h' } env h₀ L m elt x ifs scope cl fp N P Led Inv := by
  intro i c ys v h tk own oC mC k hi hP hI hown hO hv F' N'
  refine wpAny_mono (turn i c ys v h tk oC mC ((h'.objs.size, lst ys k) :: own) hi hP hI hO hv ?_ F' N') (fun ok s₃ z => ?_) fun _ _ z => z
  · intro p hp
    rcases List.mem_cons.mp hp with rfl | hp
    · exact .inr fun q hq => Nat.lt_succ_of_lt (Nat.lt_trans (hlt q hq) hIs)
    rcases List.mem_cons.mp hp with rfl | hp
    · exact .inr fun q hq => Nat.lt_trans (hlt q hq) hIs
    · rcases hfp _ (hown p hp) with e | e
      · exact .inr fun q hq => e ▸ hlt q hq
      · exact .inl e
  · exact z
theorem lc_noneB {Q : Value → Shared → Prop} (hh : A.handled = none) (F : Fr h₀ L s.heap m) (N : News h₀ L s.heap news) (hl : (l, lst vs n) ∈ news)
    (Led : σ → List (Addr × Obj)) (Inv : Addr → Nat → σ → List Value → Prop) (c₀ : σ) (hsub : ∀ p ∈ Led c₀, p ∈ news) (hLed : ∀ b i c ys, Inv b i c ys → ∀ p ∈ Led c, (∃ q ∈ news, q.1 = p.1) ∨ b < p.1) (hi : ∀ b, Inv b 0 c₀ []) (hys : ∀ b i c ys, Inv b i c ys → ys.length ≤ 1000)
    (hcell : ∀ y ∈ scope.names, y.2 ≠ .cell) (hkind : scope.kind = .function) (hx : scope.names.lookup x = some .local)
    (turn : ∀ b, LTurnB w A s env h₀ L l m news elt x ifs scope cl vs.length (fun i v => vs[i]? = some v) Led b (Inv b))
    (fin : ∀ b D c ys h tk k, Inv b vs.length c ys → D < b → Fr h₀ L h m → News h₀ L h ((D, lst ys k) :: Led c) → (∀ p ∈ news, p.1 < D) → Q (.ref D) { s with heap := h, toks := tk }) :
    wpAny (model PG w) A (pyIter (.ref l)) (CompK w A env elt x px iter ifs scope cl pos none Q E) E s := by
  refine list_start F N hl fun I h' F' N' hlt hLI hI0 hIs hIt hIl => ?_
  have hlI : l ≠ I := Nat.ne_of_lt (hlt _ hl)
  have hlL := (N _ hl).2.1
  have hlz : l < h'.objs.size := Nat.lt_trans (hlt _ hl) hIs
  refine comp_none (Walks.list (prog := PG) (w := w) hh I l hlI vs.toArray) Led (Inv (h'.objs.size + 1)) c₀ hcell hkind hx ⟨hIt, hIl⟩ ?_ ?_ ?_ F' (News.sub N' hsub) (hi _) ?_ (lturnB (l := l) hlt hIs (fun b hb => ?_) ?_) ?_
  · intro b hb
    rcases List.mem_cons.mp hb with rfl | hb
    · exact hIs
    · rw [List.mem_singleton.mp hb]; exact hlz
  · intro b hb
    rw [List.mem_singleton.mp hb]; exact hI0
  · intro hq
    rcases List.mem_cons.mp hq with q | q
    · exact hLI q
    · exact hlL (List.mem_singleton.mp q).symm
  · intro i c ys hI
    refine ⟨hys _ i c ys hI, fun p hp => ?_⟩
    rcases hLed _ i c ys hI p hp with ⟨q, hq, e⟩ | e
    · have := hlt q hq
      rw [e] at this
      exact ⟨fun z => Nat.lt_irrefl _ (List.mem_singleton.mp z ▸ this), Nat.ne_of_lt (Nat.lt_trans this hIs), Nat.ne_of_lt (Nat.lt_succ_of_lt (Nat.lt_trans this hIs))⟩
    · have e2 : h'.objs.size < p.1 := Nat.lt_of_succ_lt e
      exact ⟨fun z => Nat.lt_irrefl _ (Nat.lt_trans hIs (List.mem_singleton.mp z ▸ e2)), Nat.ne_of_gt e2, Nat.ne_of_gt e⟩
  · rcases List.mem_cons.mp hb with q | q
    · exact .inl q
    · exact .inr (List.mem_singleton.mp q)
  · intro i c ys v h tk oC mC X hi hP
    exact turn _ i c ys v h tk oC mC X (by simpa using hi) (by simpa using hP)
  · intro c ys h tk k hI F6 N6
    exact fin _ _ c ys h tk k (by simpa using hI) (Nat.lt_succ_self _) F6 N6 fun p hp => Nat.lt_trans (hlt p hp) hIs
end
structure Ans2 where
  at' : Addr
  port : Int
  tp : Tok
  th : Tok
def ansObj2 (host : Str) (x : Ans2) : Addr × Obj := (x.at', tup [.str host x.th, .int x.port x.tp])
section
local macro_rules | `(tactic| walk_at "execs cons") => `(tactic| refine Stop.mk ?_)
set_option maxRecDepth 100000 in
set_option maxHeartbeats 4000000 in
theorem law_6 {w : World} {A : Around} {h₀ : Heap} {L f ol fl fs : Addr} {cd : Value} {s : Shared} {m : Str → Option Value} {ov : List Value} {W : List Nat} {kz kf ok : Nat} {th : Tok} {us : List Ans} {out : List Item} {o : Nat → Obj} {R : List (Addr × Obj)} {Q : Flow → Shared → Prop}
    (G1 : Sit1 w A h₀ L (lawEnv L f cd)) (F : Fr h₀ L s.heap m) (hd : A.depth + 16 < recursionLimit) (hu : A.units + 128 < cLine)
    (hov : IntsAre ov (iz W)) (hW : W.length ≤ 12) (hout : keys out = iz W) (hok : ∀ z ∈ out, okAns us z) (hc5 : (o 5).data = .cell (some (.ref ol))) (hc8 : (o 8).data = .cell (some (.ref fl)))
    (hol : (ol, lst ov ok) ∈ R) (hfl : (fl, lst [] kz) ∈ R) (hfs : (fs, lst (fsts out) kf) ∈ R) (hus : ∀ p ∈ us.map (ansObj (Str.ofString "h1") th), p ∈ R)
    (hm : ∀ p ∈ [(Str.ofString "firsts", .ref fs)], m p.1 = some p.2)
    (N : News h₀ L s.heap (cellsL L o ++ R))
    (K : ∀ h' tk', Fr h₀ L h' m → News h₀ L h' (cellsL L o ++ R) → wpAny (model PG w) A (execs (lawBody.drop 21) (lawEnv L f cd)) Q (fun _ _ => False) { s with heap := h', toks := tk' }) :
    wpAny (model PG w) A (execs (lawBody.drop 20) (lawEnv L f cd)) Q (fun _ _ => False) s := by
  have KX := G1.inn
  have hh := G1.hh
  refine cps fun P9 k9 => ?_
  obtain ⟨loose, mean, mg, mb, hloose, T⟩ := G1.top
  refine k9 ?_
  clear k9 P9
  have F' := fr_names _ F hm
  clear F
  dsimp only [kstB_cons, kstB_nil] at F'
  conv => pattern List.drop _ _; whnf
  unfold lawEnv
  conv => pattern lawScope; whnf
  w_on
  w_strict (
  refine wpAny_execs_cons ?_
  k_steps
  (intro stop9; clear stop9)
  rename_i e1 h1 F1 N1 hlt1
  refine ne_nil (vs := []) (n := kz) (n2 := 0) N1 (by walk_at "member") List.mem_cons_self (by lia) ?_
  rw [show (!([] : List Value).isEmpty) = false from rfl]
  k_steps
  (intro stop9; clear stop9)
  have N2 : News h₀ L h1 (cellsL L o ++ R) := News.sub N1 fun p hp => List.mem_cons_of_mem _ hp
  clear N1
  have hovl : ov.length = W.length := by rw [hov.length, iz_length]
  refine listcomp_start _ (by with_unfolding_all rfl) rfl (by decide) ?_
  k_steps
  refine lc_noneB (l := ol) (vs := ov) (n := ok) hh F1 N2 (List.mem_append_right _ hol) (σ := List Ans2) (fun c => (cellsL L o ++ R) ++ c.map (ansObj2 (Str.ofString "h1"))) (fun b i c ys => i ≤ W.length ∧ c.map (·.port) = (iz W).take i ∧ ys = c.map (fun x => Value.ref x.at') ∧ ∀ x ∈ c, b < x.at') []
    (fun p hp => by simpa using hp) ?_ (fun b => ⟨Nat.zero_le _, rfl, rfl, fun _ h => nomatch h⟩) ?_ (by decide) rfl rfl ?_ ?_
  · rintro b i c ys ⟨_, _, _, q⟩ p hp
    rcases List.mem_append.mp hp with hp | hp
    · exact .inl ⟨p, hp, rfl⟩
    · obtain ⟨x, hx, rfl⟩ := List.mem_map.mp hp
      exact .inr (q x hx)
  · intro b i c ys hq9
    refine cps fun P9 k9 => ?_
    obtain ⟨q0, q1, rfl, _⟩ := hq9
    refine k9 ?_
    clear k9 P9
    have := congrArg List.length q1
    rw [List.length_map, List.length_take, iz_length] at this
    rw [List.length_map]
    lia
  · intro b i c ys v h9 tk9 oC mC X hi hv hq9 hO hmx hX F9 N9
    refine cps fun P9 k9 => ?_
    obtain ⟨q0, q1, rfl, q3⟩ := hq9
    refine k9 ?_
    clear k9 P9
    dsimp only at N9
    obtain ⟨hi2, tv, rfl⟩ := ints_at hov hv
    k_steps
    rename_i Dn hn Fn Nn ln
    obtain ⟨tx, Nn⟩ : ∃ tx, News h₀ L hn ((Dn, tup [.str (Str.ofString "h1") tx, .int (iz W)[i] tv]) :: (((b, oC) :: X) ++ ((cellsL L o ++ R) ++ c.map (ansObj2 (Str.ofString "h1"))))) := ⟨_, Nn⟩
    refine c_end (c ++ [⟨Dn, (iz W)[i], tv, tx⟩]) Fn Nn ?_ ⟨by rw [hovl] at hi; exact hi, ?_, ?_, ?_⟩
    · intro p hp
      rw [List.map_append] at hp
      rcases List.mem_append.mp hp with hp | hp
      · exact List.mem_cons_of_mem _ (List.mem_append_left _ hp)
      rcases List.mem_append.mp hp with hp | hp
      · exact List.mem_cons_of_mem _ (List.mem_append_right _ (List.mem_append_left _ hp))
      rcases List.mem_append.mp hp with hp | hp
      · exact List.mem_cons_of_mem _ (List.mem_append_right _ (List.mem_append_right _ hp))
      · rw [show p = _ from List.mem_singleton.mp hp]
        exact List.mem_cons_self
    · rw [List.map_append, q1, List.take_succ_eq_append_getElem hi2]
      rfl
    · rw [List.map_append]; rfl
    · intro x hx
      rcases List.mem_append.mp hx with hx | hx
      · exact q3 x hx
      · rw [List.mem_singleton.mp hx]
        exact ln (b, oC) List.mem_cons_self
  · intro b D c ys h9 tk9 k9 hq9 hDb F9 N9 hlt9
    refine cps fun P9 k9 => ?_
    obtain ⟨q0, q1, rfl, q3⟩ := hq9
    refine k9 ?_
    clear k9 P9
    rw [hovl] at q1
    rw [List.take_of_length_le (by rw [iz_length]; exact Nat.le_refl _)] at q1
    k_steps
    (intro stop9; clear stop9)
    refine ne_pairs (host := Str.ofString "h1") (vs := fsts out) (ws := c.map fun x => Value.ref x.at') (n := kf) (n2 := k9) N9 (List.mem_cons_of_mem _ (List.mem_append_left _ (List.mem_append_right _ hfs))) List.mem_cons_self ?_ (by lia) ?_ ?_
    · have e1 := congrArg List.length hout
      have e2 := congrArg List.length q1
      rw [List.length_map] at e1 e2
      rw [List.length_map, List.length_map, e1, e2]
    · intro j j1 j2
      have j1' : j < out.length := by rw [List.length_map] at j1; exact j1
      have j2' : j < c.length := by rw [List.length_map] at j2; exact j2
      obtain ⟨a, ha, ea⟩ := hok _ (List.getElem_mem j1')
      have hp1 : out[j].2 = c[j].port := by
        have e1 : (keys out)[j]? = (c.map (·.port))[j]? := by rw [hout, q1]
        rw [List.getElem?_map, List.getElem?_map, List.getElem?_eq_getElem j1', List.getElem?_eq_getElem j2'] at e1
        exact Option.some.inj e1
      have hpa : a.port = c[j].port := by rw [← hp1, ea]
      have za := N9 _ (List.mem_cons_of_mem _ (List.mem_append_left _ (List.mem_append_right _ (hus _ (List.mem_map.mpr ⟨a, ha, rfl⟩)))))
      have zc := N9 (ansObj2 (Str.ofString "h1") c[j]) (List.mem_cons_of_mem _ (List.mem_append_right _ (List.mem_map.mpr ⟨c[j], List.getElem_mem _, rfl⟩)))
      refine ⟨a.at', c[j].at', c[j].port, a.tp, c[j].tp, th, c[j].th, ?_, by simp, ?_, ?_, zc.1⟩
      · have : (fsts out)[j] = out[j].1 := by simp
        rw [this, ea]
      · have l1 : a.at' < D := hlt9 _ (List.mem_append_right _ (hus _ (List.mem_map.mpr ⟨a, ha, rfl⟩)))
        exact Nat.ne_of_lt (Nat.lt_trans (Nat.lt_trans l1 hDb) (q3 _ (List.getElem_mem _)))
      · rw [← hpa]; exact za.1
    k_steps
    (intro stop9; clear stop9)
    have F10 : Fr h₀ L h9 (kstB m [(Str.ofString "firsts", .ref fs)]) := F9
    rw [kstB_self hm] at F10
    exact K _ _ F10 (News.sub N9 fun p hp => List.mem_cons_of_mem _ (List.mem_append_left _ hp)))
end
section
local macro_rules | `(tactic| walk_at "execs cons") => `(tactic| refine Stop.mk ?_)
set_option maxRecDepth 100000 in
set_option maxHeartbeats 4000000 in
theorem law_7 {w : World} {A : Around} {h₀ : Heap} {L f ol fl fs : Addr} {cd : Value} {s : Shared} {m : Str → Option Value} {ov : List Value} {W : List Nat} {kz kf ok : Nat} {th : Tok} {us : List Ans} {out : List Item} {o : Nat → Obj} {R : List (Addr × Obj)} {Q : Flow → Shared → Prop}
    (G1 : Sit1 w A h₀ L (lawEnv L f cd)) (F : Fr h₀ L s.heap m) (hd : A.depth + 16 < recursionLimit) (hu : A.units + 128 < cLine)
    (hov : IntsAre ov (iz W)) (hW : W.length ≤ 12) (hout : keys out = iz W) (hok : ∀ z ∈ out, okAns us z) (hc6 : (o 6).data = .cell (some (.ref ol))) (hc9 : (o 9).data = .cell (some (.ref fl)))
    (hol : (ol, lst ov ok) ∈ R) (hfl : (fl, lst [] kz) ∈ R) (hfs : (fs, lst (fsts out) kf) ∈ R) (hus : ∀ p ∈ us.map (ansObj (Str.ofString "h2") th), p ∈ R)
    (hm : ∀ p ∈ [(Str.ofString "seconds", .ref fs)], m p.1 = some p.2)
    (N : News h₀ L s.heap (cellsL L o ++ R))
    (K : ∀ h' tk', Fr h₀ L h' m → News h₀ L h' (cellsL L o ++ R) → wpAny (model PG w) A (execs (lawBody.drop 22) (lawEnv L f cd)) Q (fun _ _ => False) { s with heap := h', toks := tk' }) :
    wpAny (model PG w) A (execs (lawBody.drop 21) (lawEnv L f cd)) Q (fun _ _ => False) s := by
  have KX := G1.inn
  have hh := G1.hh
  refine cps fun P9 k9 => ?_
  obtain ⟨loose, mean, mg, mb, hloose, T⟩ := G1.top
  refine k9 ?_
  clear k9 P9
  have F' := fr_names _ F hm
  clear F
  dsimp only [kstB_cons, kstB_nil] at F'
  conv => pattern List.drop _ _; whnf
  unfold lawEnv
  conv => pattern lawScope; whnf
  w_on
  w_strict (
  refine wpAny_execs_cons ?_
  k_steps
  (intro stop9; clear stop9)
  rename_i e1 h1 F1 N1 hlt1
  refine ne_nil (vs := []) (n := kz) (n2 := 0) N1 (by walk_at "member") List.mem_cons_self (by lia) ?_
  rw [show (!([] : List Value).isEmpty) = false from rfl]
  k_steps
  (intro stop9; clear stop9)
  have N2 : News h₀ L h1 (cellsL L o ++ R) := News.sub N1 fun p hp => List.mem_cons_of_mem _ hp
  clear N1
  have hovl : ov.length = W.length := by rw [hov.length, iz_length]
  refine listcomp_start _ (by with_unfolding_all rfl) rfl (by decide) ?_
  k_steps
  refine lc_noneB (l := ol) (vs := ov) (n := ok) hh F1 N2 (List.mem_append_right _ hol) (σ := List Ans2) (fun c => (cellsL L o ++ R) ++ c.map (ansObj2 (Str.ofString "h2"))) (fun b i c ys => i ≤ W.length ∧ c.map (·.port) = (iz W).take i ∧ ys = c.map (fun x => Value.ref x.at') ∧ ∀ x ∈ c, b < x.at') []
    (fun p hp => by simpa using hp) ?_ (fun b => ⟨Nat.zero_le _, rfl, rfl, fun _ h => nomatch h⟩) ?_ (by decide) rfl rfl ?_ ?_
  · rintro b i c ys ⟨_, _, _, q⟩ p hp
    rcases List.mem_append.mp hp with hp | hp
    · exact .inl ⟨p, hp, rfl⟩
    · obtain ⟨x, hx, rfl⟩ := List.mem_map.mp hp
      exact .inr (q x hx)
  · intro b i c ys hq9
    refine cps fun P9 k9 => ?_
    obtain ⟨q0, q1, rfl, _⟩ := hq9
    refine k9 ?_
    clear k9 P9
    have := congrArg List.length q1
    rw [List.length_map, List.length_take, iz_length] at this
    rw [List.length_map]
    lia
  · intro b i c ys v h9 tk9 oC mC X hi hv hq9 hO hmx hX F9 N9
    refine cps fun P9 k9 => ?_
    obtain ⟨q0, q1, rfl, q3⟩ := hq9
    refine k9 ?_
    clear k9 P9
    dsimp only at N9
    obtain ⟨hi2, tv, rfl⟩ := ints_at hov hv
    k_steps
    rename_i Dn hn Fn Nn ln
    obtain ⟨tx, Nn⟩ : ∃ tx, News h₀ L hn ((Dn, tup [.str (Str.ofString "h2") tx, .int (iz W)[i] tv]) :: (((b, oC) :: X) ++ ((cellsL L o ++ R) ++ c.map (ansObj2 (Str.ofString "h2"))))) := ⟨_, Nn⟩
    refine c_end (c ++ [⟨Dn, (iz W)[i], tv, tx⟩]) Fn Nn ?_ ⟨by rw [hovl] at hi; exact hi, ?_, ?_, ?_⟩
    · intro p hp
      rw [List.map_append] at hp
      rcases List.mem_append.mp hp with hp | hp
      · exact List.mem_cons_of_mem _ (List.mem_append_left _ hp)
      rcases List.mem_append.mp hp with hp | hp
      · exact List.mem_cons_of_mem _ (List.mem_append_right _ (List.mem_append_left _ hp))
      rcases List.mem_append.mp hp with hp | hp
      · exact List.mem_cons_of_mem _ (List.mem_append_right _ (List.mem_append_right _ hp))
      · rw [show p = _ from List.mem_singleton.mp hp]
        exact List.mem_cons_self
    · rw [List.map_append, q1, List.take_succ_eq_append_getElem hi2]
      rfl
    · rw [List.map_append]; rfl
    · intro x hx
      rcases List.mem_append.mp hx with hx | hx
      · exact q3 x hx
      · rw [List.mem_singleton.mp hx]
        exact ln (b, oC) List.mem_cons_self
  · intro b D c ys h9 tk9 k9 hq9 hDb F9 N9 hlt9
    refine cps fun P9 k9 => ?_
    obtain ⟨q0, q1, rfl, q3⟩ := hq9
    refine k9 ?_
    clear k9 P9
    rw [hovl] at q1
    rw [List.take_of_length_le (by rw [iz_length]; exact Nat.le_refl _)] at q1
    k_steps
    (intro stop9; clear stop9)
    refine ne_pairs (host := Str.ofString "h2") (vs := fsts out) (ws := c.map fun x => Value.ref x.at') (n := kf) (n2 := k9) N9 (List.mem_cons_of_mem _ (List.mem_append_left _ (List.mem_append_right _ hfs))) List.mem_cons_self ?_ (by lia) ?_ ?_
    · have e1 := congrArg List.length hout
      have e2 := congrArg List.length q1
      rw [List.length_map] at e1 e2
      rw [List.length_map, List.length_map, e1, e2]
    · intro j j1 j2
      have j1' : j < out.length := by rw [List.length_map] at j1; exact j1
      have j2' : j < c.length := by rw [List.length_map] at j2; exact j2
      obtain ⟨a, ha, ea⟩ := hok _ (List.getElem_mem j1')
      have hp1 : out[j].2 = c[j].port := by
        have e1 : (keys out)[j]? = (c.map (·.port))[j]? := by rw [hout, q1]
        rw [List.getElem?_map, List.getElem?_map, List.getElem?_eq_getElem j1', List.getElem?_eq_getElem j2'] at e1
        exact Option.some.inj e1
      have hpa : a.port = c[j].port := by rw [← hp1, ea]
      have za := N9 _ (List.mem_cons_of_mem _ (List.mem_append_left _ (List.mem_append_right _ (hus _ (List.mem_map.mpr ⟨a, ha, rfl⟩)))))
      have zc := N9 (ansObj2 (Str.ofString "h2") c[j]) (List.mem_cons_of_mem _ (List.mem_append_right _ (List.mem_map.mpr ⟨c[j], List.getElem_mem _, rfl⟩)))
      refine ⟨a.at', c[j].at', c[j].port, a.tp, c[j].tp, th, c[j].th, ?_, by simp, ?_, ?_, zc.1⟩
      · have : (fsts out)[j] = out[j].1 := by simp
        rw [this, ea]
      · have l1 : a.at' < D := hlt9 _ (List.mem_append_right _ (hus _ (List.mem_map.mpr ⟨a, ha, rfl⟩)))
        exact Nat.ne_of_lt (Nat.lt_trans (Nat.lt_trans l1 hDb) (q3 _ (List.getElem_mem _)))
      · rw [← hpa]; exact za.1
    k_steps
    (intro stop9; clear stop9)
    have F10 : Fr h₀ L h9 (kstB m [(Str.ofString "seconds", .ref fs)]) := F9
    rw [kstB_self hm] at F10
    exact K _ _ F10 (News.sub N9 fun p hp => List.mem_cons_of_mem _ (List.mem_append_left _ hp)))
end
def TEnd {σ : Type} (h₀ : Heap) (L : Addr) (s : Shared) (own : List (Addr × Obj)) (Led : σ → List (Addr × Obj)) (names : List (Str × Value)) (Inv : Nat → σ → Prop) (i : Nat) (f : Flow) (s₂ : Shared) : Prop :=
  f = .next ∧ ∃ (c' : σ) (h' : Heap) (tk : Nat) (m' : Str → Option Value) (news' : List (Addr × Obj)), s₂ = { s with heap := h', toks := tk } ∧ Fr h₀ L h' m' ∧ News h₀ L h' news' ∧ (∀ p ∈ own ++ Led c', p ∈ news') ∧ (∀ p ∈ names, m' p.1 = some p.2) ∧ Inv i c'
theorem t_end {σ : Type} {h₀ : Heap} {L : Addr} {s : Shared} {own : List (Addr × Obj)} {Led : σ → List (Addr × Obj)} {names : List (Str × Value)} {Inv : Nat → σ → Prop} {i : Nat} {h' : Heap} {tk : Nat} {m' : Str → Option Value} {news' : List (Addr × Obj)} (c' : σ)
    (F : Fr h₀ L h' m') (N : News h₀ L h' news') (hn : ∀ p ∈ own ++ Led c', p ∈ news') (hk : ∀ p ∈ names, m' p.1 = some p.2) (hp : Inv i c') : TEnd h₀ L s own Led names Inv i .next { s with heap := h', toks := tk } := ⟨rfl, c', h', tk, m', news', rfl, F, N, hn, hk, hp⟩
theorem own_go {w : World} {A : Around} {elts : List PySem.Expr} {x1 : Nat} {pos : Pos} {I l : Addr} {i : Nat} {v : Value} {s : Shared} {Q : Unit → Shared → Prop} {E : Value → Shared → Prop} (hit : s.heap.IsListIter I l i) (hQ : Q () s) : wpAny (model PG w) A (letOwnedTupleGo (.Tuple elts x1 pos) (.ref I) v) Q E s := by
  cases v with
  | ref T => exact wpAny_letOwnedTupleGo_listiter hit hQ
  | _ => unfold letOwnedTupleGo; exact wpAny_pure hQ
def TJ {σ : Type} (Led : σ → List (Addr × Obj)) (names : List (Str × Value)) (Inv : Nat → σ → Prop) (i : Nat) (m : Str → Option Value) (nx : List (Addr × Obj)) : Prop :=
  ∃ c : σ, nx = Led c ∧ (∀ p ∈ names, m p.1 = some p.2) ∧ Inv i c
/-- a for over a list of the ledger whose target is a tuple -/
theorem turn_at {w : World} {A : Around} {E : Value → Shared → Prop} {Q : Flow → Shared → Prop} {s : Shared} {env : Env} {h₀ : Heap} {elts : List PySem.Expr} {x1 : Nat} {tpos : Pos} {body : List Stmt} {σ : Type} {l : Addr} {vs : List Value} {k : Nat} {m₀ : Str → Option Value} {news : List (Addr × Obj)}
    (hh : A.handled = none) (F : Fr h₀ env.locals s.heap m₀) (N : News h₀ env.locals s.heap news) (hl : (l, lst vs k) ∈ news)
    (Led : σ → List (Addr × Obj)) (names : List (Str × Value)) (Inv : Nat → σ → Prop) (c₀ : σ) (hsub : ∀ p ∈ Led c₀, p ∈ news) (hLed : ∀ i c, Inv i c → ∀ p ∈ Led c, ∃ q ∈ news, q.1 = p.1)
    (hk : ∀ p ∈ names, m₀ p.1 = some p.2) (hi : Inv 0 c₀)
    (turn : ∀ i c v m₁ h tk own, i < vs.length → vs[i]? = some v → Inv i c → (∀ p ∈ own, p.1 = l ∨ ∀ q ∈ news, q.1 < p.1) → (∀ p ∈ names, m₁ p.1 = some p.2) → Fr h₀ env.locals h m₁ → News h₀ env.locals h (own ++ Led c) →
      wpAny (model PG w) A (assign (.Tuple elts x1 tpos) env v) (fun _ s₃ => wpAny (model PG w) A (execs body env) (TEnd h₀ env.locals s own Led names Inv (i + 1)) E s₃) E { s with heap := h, toks := tk })
    (fin : ∀ c m' h tk, Inv vs.length c → (∀ p ∈ names, m' p.1 = some p.2) → Fr h₀ env.locals h m' → News h₀ env.locals h (Led c) → Q .next { s with heap := h, toks := tk }) :
    wpAny (model PG w) A (pyIter (.ref l)) (fun it s₂ => TurnsAt PG w A h₀ env (.Tuple elts x1 tpos) body Q E it s₂) E s := by
  refine list_start F N hl fun I h' F' N' hlt hLI hI0 hIs hIt hIl => ?_
  have hlI : l ≠ I := Nat.ne_of_lt (hlt _ hl)
  have hlL := (N _ hl).2.1
  have hoff : ∀ i c, Inv i c → ∀ p ∈ Led c, p.1 ∉ [I] := fun i c hI p hp z => by
    obtain ⟨q, hq, e⟩ := hLed i c hI p hp
    have := hlt q hq
    rw [e] at this
    exact Nat.lt_irrefl _ (List.mem_singleton.mp z ▸ this)
  refine ⟨I, [I, l], [I], vs.toArray.size, _, _, _, m₀, Led c₀, TJ Led names Inv, rfl, KTurns.ofWalks (Walks.list (prog := PG) (w := w) hh I l hlI vs.toArray) (fun i v s Q E st hQ => own_go st.1 hQ), ?_, ?_, hoff 0 c₀ hi, ⟨hIt, hIl⟩, F', News.sub N' hsub, ⟨c₀, rfl, hk, hi⟩, ?_, ?_⟩
  · intro hq
    rcases List.mem_cons.mp hq with q | q
    · exact hLI q
    · exact hlL (List.mem_singleton.mp q).symm
  · intro b hb
    rw [List.mem_singleton.mp hb]; exact hI0
  · rintro i v m₁ news₁ h₁ tk₁ own hi' hP ⟨c, rfl, h1, h3⟩ hnw hown _ _ _ F₁ N₁
    refine wpAny_mono (turn i c v m₁ h₁ tk₁ own (by simpa using hi') (by simpa using hP) h3 (fun p hp => ?_) h1 F₁ N₁) (fun _ s₃ h₃ => wpAny_mono h₃ (fun f s₄ h₄ => ?_) fun _ _ e => e) fun _ _ e => e
    · rcases List.mem_cons.mp (hown p hp) with q | q
      · exact .inr fun z hz => q ▸ hlt z hz
      · exact .inl (List.mem_singleton.mp q)
    · refine cps fun P9 k9 => ?_
      obtain ⟨rfl, c', h', tk', m', news', rfl, F', N', hn, k1, k3⟩ := h₄
      refine k9 ?_
      clear k9 P9
      exact LoopStepU.intro F' (fun p hp => N' p (hn p hp)) (hoff (i + 1) c' k3) ⟨c', rfl, k1, k3⟩
  · rintro h' tk m' news' F' N' _ ⟨c, rfl, h1, h3⟩
    exact fin c m' h' tk (by simpa using h3) h1 F' N'
theorem m_add {w : World} {A : Around} {E : Value → Shared → Prop} {s : Shared} {h₀ : Heap} {L l b : Addr} {m : Str → Option Value} {news : List (Addr × Obj)} {vs ws : List Value} {n n2 : Nat} {Q : Value → Shared → Prop} (F : Fr h₀ L s.heap m) (N : News h₀ L s.heap news) (hl : (l, lst vs n) ∈ news) (hb : (b, lst ws n2) ∈ news) (hz : vs.length + ws.length ≤ 1000)
    (h : ∀ D h', Fr h₀ L h' m → News h₀ L h' ((D, lst (vs ++ ws) 0) :: news) → (∀ p ∈ news, p.1 < D) → Q (.ref D) { s with heap := h' }) : wpAny (model PG w) A (binaryOp .Add (.ref l) (.ref b)) Q E s :=
  add_arrays F N (m_isList N hl) (m_isList N hb) (fun h' F' N' => h _ h' F' N' fun p hp => Heap.lt_size (N p hp).1) (by rw [List.size_toArray, List.size_toArray]; unfold sizeLine; lia)
theorem fsts_append (a b : List Item) : fsts (a ++ b) = fsts a ++ fsts b := List.map_append ..
theorem keys_append (a b : List Item) : keys (a ++ b) = keys a ++ keys b := List.map_append ..
theorem ints_ok : ∀ {zs : List Item}, (∀ z ∈ zs, okInt z) → IntsAre (fsts zs) (keys zs)
  | [], _ => .nil
  | z :: r, h => by
    obtain ⟨t, e⟩ := h z List.mem_cons_self
    show IntsAre (z.1 :: fsts r) (z.2 :: keys r)
    rw [e]
    exact .cons _ _ (ints_ok fun y hy => h y (List.mem_cons_of_mem _ hy))
/-- how far the pushing and popping has come -/
structure PPInv (P0 : List Int) (X : Int) (i : Nat) (zs out : List Item) : Prop where
  heap : HeapFrom 0 zs
  perm : (keys out ++ keys zs).Perm (P0 ++ List.replicate i X)
  sorted : (keys out).Pairwise (· ≤ ·)
  le : ∀ a ∈ out, ∀ b ∈ zs, a.2 ≤ b.2
  len : zs.length = P0.length
  cnt : (keys zs).countP (fun z => decide (z < X)) + i = P0.length
  okz : ∀ z ∈ zs, okInt z
  oko : ∀ z ∈ out, okInt z
  outl : out.length = i
theorem PPInv.step {P0 : List Int} {X : Int} {i : Nat} {zs out : List Item} {t : Tok} (H : PPInv P0 X i zs out) (hi : i < P0.length) : PPInv P0 X (i + 1) (hpp zs (.int X t, X)).2 (out ++ [(hpp zs (.int X t, X)).1]) := by
  have hpos : 0 < (keys zs).countP (fun z => decide (z < X)) := by have := H.cnt; lia
  obtain ⟨y, hy, hyX⟩ := List.countP_pos_iff.mp hpos
  obtain ⟨z, hz, rfl⟩ := List.mem_map.mp hy
  have hzX : z.2 < X := by simpa using hyX
  have hne : zs ≠ [] := fun e => by rw [e] at hz; cases hz
  have hK : K zs 0 < X := Int.lt_of_le_of_lt (heap_min_mem H.heap hz) hzX
  refine cps fun P9 k9 => ?_
  obtain ⟨a, b, c, d, e⟩ := hpp_ok (x := (.int X t, X)) H.heap hne hK
  refine k9 ?_
  clear k9 P9
  generalize hpp zs (.int X t, X) = r at a b c d e
  have hrX : r.1.2 < X := Int.lt_of_le_of_lt (e z hz) hzX
  have ek : keys (out ++ [r.1]) = keys out ++ [r.1.2] := keys_append ..
  refine ⟨a, ?_, ?_, ?_, ?_, ?_, ?_, ?_, ?_⟩
  · rw [ek, List.append_assoc]
    refine (List.Perm.append_left (keys out) b).trans ?_
    refine List.perm_middle.trans ?_
    refine (List.Perm.cons X H.perm).trans ?_
    rw [List.replicate_succ]
    exact List.perm_middle.symm
  · rw [ek, List.pairwise_append]
    refine ⟨H.sorted, List.pairwise_singleton .., fun x hx y hy => ?_⟩
    obtain ⟨q, hq, rfl⟩ := List.mem_map.mp hx
    rw [List.mem_singleton.mp hy]
    exact H.le q hq _ c
  · intro x hx y hy
    rcases List.mem_append.mp hx with hx | hx
    · rcases d y hy with rfl | hy
      · exact Int.le_of_lt (Int.lt_of_le_of_lt (H.le x hx z hz) hzX)
      · exact H.le x hx y hy
    · rw [List.mem_singleton.mp hx]
      rcases d y hy with rfl | hy
      · exact Int.le_of_lt hrX
      · exact e y hy
  · have := b.length_eq
    rw [List.length_cons, List.length_cons, List.length_map, List.length_map] at this
    have := H.len
    lia
  · have h1 := b.countP_eq (fun z => decide (z < X))
    rw [List.countP_cons_of_pos (by simpa using hrX), List.countP_cons_of_neg (by simp)] at h1
    have := H.cnt
    lia
  · intro y hy
    rcases d y hy with rfl | hy
    · exact ⟨t, rfl⟩
    · exact H.okz y hy
  · intro y hy
    rcases List.mem_append.mp hy with hy | hy
    · exact H.oko y hy
    · rw [List.mem_singleton.mp hy]; exact H.okz _ c
  · rw [List.length_append, H.outl]; rfl
theorem PPInv.fin {P0 : List Int} {X : Int} {zs out : List Item} (H : PPInv P0 X P0.length zs out) (hX : ∀ p ∈ P0, p < X) : keys zs = List.replicate P0.length X ∧ (keys out).Perm P0 := by
  have hc : (keys zs).countP (fun z => decide (z < X)) = 0 := by have := H.cnt; lia
  have hall : ∀ z ∈ keys zs, z = X := fun z hz => by
    have h1 : ¬ z < X := by simpa using List.countP_eq_zero.mp hc z hz
    have h2 := H.perm.mem_iff.mp (List.mem_append_right (keys out) hz)
    rcases List.mem_append.mp h2 with h2 | h2
    · exact absurd (hX z h2) h1
    · exact (List.mem_replicate.mp h2).2
  have hk : keys zs = List.replicate P0.length X := by
    rw [List.eq_replicate_iff]
    exact ⟨by rw [List.length_map]; exact H.len, hall⟩
  refine ⟨hk, ?_⟩
  have h3 := H.perm
  rw [hk] at h3
  exact (List.perm_append_right_iff _).mp h3
set_option maxRecDepth 100000 in
set_option maxHeartbeats 4000000 in
theorem law_8 {w : World} {A : Around} {h₀ : Heap} {L f fs ss : Addr} {cd : Value} {s : Shared} {m : Str → Option Value} {W1 W2 : List Nat} {kf ks low : Nat} {th th2 t2 : Tok} {us us2 : List Ans} {out out2 : List Item} {o : Nat → Obj} {R : List (Addr × Obj)} {Q : Flow → Shared → Prop}
    (G : Sit w A h₀ L) (G1 : Sit1 w A h₀ L (lawEnv L f cd)) (F : Fr h₀ L s.heap m) (hd : A.depth + 16 < recursionLimit) (hu : A.units + 128 < cLine)
    (hlow : low < 100000) (hW1 : W1.length ≤ 12) (hW2 : W2.length ≤ 12) (hlt1 : ∀ p ∈ W1, p < low + 12) (hlt2 : ∀ p ∈ W2, p < low + 12) (hout : keys out = iz W1) (hok : ∀ z ∈ out, okAns us z) (hout2 : keys out2 = iz W2) (hok2 : ∀ z ∈ out2, okAns us2 z)
    (hc2 : (o 2).data = .cell (some (.int (low : Nat) t2))) (hc10 : (o 10).data = .cell none) (hob : ∀ p ∈ R, p.1 ≠ L + 10)
    (hfs : (fs, lst (fsts out) kf) ∈ R) (hss : (ss, lst (fsts out2) ks) ∈ R) (hus : ∀ p ∈ us.map (ansObj (Str.ofString "h1") th), p ∈ R) (hus2 : ∀ p ∈ us2.map (ansObj (Str.ofString "h2") th2), p ∈ R)
    (hm : ∀ p ∈ [(Str.ofString "firsts", Value.ref fs), (Str.ofString "seconds", .ref ss)], m p.1 = some p.2)
    (N : News h₀ L s.heap (cellsL L o ++ R))
    (K : ∀ of o3 kof hl zs kh o' m' h' tk', (keys o3).Perm (iz W2 ++ iz W1) → (keys o3).Pairwise (· ≤ ·) → (∀ z ∈ o3, okInt z) → keys zs = List.replicate (W2.length + W1.length) ((low : Int) + 12) → (∀ z ∈ zs, okInt z) → (o' 10).data = .cell (some (.ref hl)) → (∀ j, j ≠ 10 → o' j = o j) → (∀ p ∈ R, p.1 < hl) → L + 10 < hl → hl < of →
      m' (Str.ofString "off") = some (.ref of) → Fr h₀ L h' m' → News h₀ L h' (cellsL L o' ++ (of, lst (fsts o3) kof) :: (hl, lst (fsts zs) kh) :: R) →
      wpAny (model PG w) A (execs (lawBody.drop 25) (lawEnv L f cd)) Q (fun _ _ => False) { s with heap := h', toks := tk' }) :
    wpAny (model PG w) A (execs (lawBody.drop 22) (lawEnv L f cd)) Q (fun _ _ => False) s := by
  have KX := G1.inn
  have hh := G1.hh
  refine cps fun P9 k9 => ?_
  obtain ⟨loose, mean, mg, mb, hloose, T⟩ := G1.top
  refine k9 ?_
  clear k9 P9
  have F' := fr_names _ F hm
  clear F
  dsimp only [kstB_cons, kstB_nil] at F'
  conv => pattern List.drop _ _; whnf
  unfold lawEnv
  conv => pattern lawScope; whnf
  w_on
  w_strict (
  k_steps
  (intro stop9; clear stop9)
  rename_i hl h1 F1 N1 hltl
  have hLh : L + 10 < hl := cell_lt hltl
  refine st_cellN 10 none F1 (News.sub N1 (news' := cellsL L o ++ ((hl, lst (fsts []) 0) :: R)) (by (first | ((repeat' (first | (with_reducible refine all_cons ?_ ?_) | (with_reducible refine all_app ?_ ?_))) <;> (first | walk_at "member" | exact List.forall_mem_nil _ | (intro p hp; walk_at "member"))) | (intro p hp; (simp only [List.mem_cons, List.mem_append, List.not_mem_nil, or_false, List.nil_append, List.cons_append, List.append_nil] at hp ⊢); grind)))) (fun p hp => ?_) (by decide) (by decide) hc10 rfl rfl rfl fun h2 o2 ho2 hd2 F2 N2 => ?_
  · rcases List.mem_cons.mp hp with rfl | hp
    · exact Nat.ne_of_gt hLh
    · exact hob p hp
  clear N1 F1
  dsimp only
  k_steps
  (intro stop9; clear stop9)
  refine For_turns F2 ?_
  have hol1 : out.length = W1.length := by have := congrArg List.length hout; rw [List.length_map, iz_length] at this; exact this
  have hol2 : out2.length = W2.length := by have := congrArg List.length hout2; rw [List.length_map, iz_length] at this; exact this
  have hall : ∀ z ∈ out2 ++ out, ∃ at' host thx tp, z.1 = .ref at' ∧ (at', tup [.str host thx, .int z.2 tp]) ∈ R := fun z hz => by
    rcases List.mem_append.mp hz with hz | hz
    · obtain ⟨a, ha, rfl⟩ := hok2 z hz
      exact ⟨a.at', _, th2, a.tp, rfl, hus2 _ (List.mem_map.mpr ⟨a, ha, rfl⟩)⟩
    · obtain ⟨a, ha, rfl⟩ := hok z hz
      exact ⟨a.at', _, th, a.tp, rfl, hus _ (List.mem_map.mpr ⟨a, ha, rfl⟩)⟩
  have hsl : (fsts out2).length + (fsts out).length ≤ 1000 := by rw [List.length_map, List.length_map]; lia
  have hRh : ∀ p ∈ R, p.1 ≠ hl := fun p hp => Nat.ne_of_lt (hltl p (List.mem_append_right _ hp))
  have hCh : ∀ p ∈ cellsL L o2, p.1 ≠ hl := fun p hp => Nat.ne_of_lt (Nat.lt_of_le_of_lt (cellsL_le p hp).2 hLh)
  k_steps
  refine m_add F2 N2 (List.mem_append_right _ (List.mem_cons_of_mem _ hss)) (List.mem_append_right _ (List.mem_cons_of_mem _ hfs)) hsl fun ca h3 F3 N3 hlt3 => ?_
  rw [← fsts_append] at N3
  have hhc : hl < ca := hlt3 (hl, lst (fsts []) 0) (by walk_at "member")
  refine turn_at (s := ⟨_, _, _, _, _⟩) (l := ca) (vs := fsts (out2 ++ out)) (k := 0) hh F3 N3 List.mem_cons_self (σ := List Item × Nat) (fun c => cellsL L o2 ++ (hl, lst (fsts c.1) c.2) :: ((ca, lst (fsts (out2 ++ out)) 0) :: R)) [(Str.ofString "firsts", Value.ref fs), (Str.ofString "seconds", .ref ss)]
    (fun i c => i ≤ (out2 ++ out).length ∧ HeapFrom 0 c.1 ∧ (keys c.1).Perm ((keys (out2 ++ out)).take i) ∧ ∀ z ∈ c.1, okInt z) ([], 0) (by (first | ((repeat' (first | (with_reducible refine all_cons ?_ ?_) | (with_reducible refine all_app ?_ ?_))) <;> (first | walk_at "member" | exact List.forall_mem_nil _ | (intro p hp; walk_at "member"))) | (intro p hp; (simp only [List.mem_cons, List.mem_append, List.not_mem_nil, or_false, List.nil_append, List.cons_append, List.append_nil] at hp ⊢); grind))) ?_ (List.forall_mem_cons.mpr ⟨by with_unfolding_all exact Eq.refl (some _), List.forall_mem_cons.mpr ⟨by with_unfolding_all exact Eq.refl (some _), fun _ h => nomatch h⟩⟩) ⟨Nat.zero_le _, heap_nil, .refl _, fun _ h => nomatch h⟩ ?_ ?_
  · rintro i c - p hp
    rcases List.mem_append.mp hp with hp | hp
    · exact ⟨p, List.mem_cons_of_mem _ (List.mem_append_left _ hp), rfl⟩
    rcases List.mem_cons.mp hp with rfl | hp
    · exact ⟨(hl, lst (fsts []) 0), List.mem_cons_of_mem _ (List.mem_append_right _ List.mem_cons_self), rfl⟩
    rcases List.mem_cons.mp hp with rfl | hp
    · exact ⟨_, List.mem_cons_self, rfl⟩
    · exact ⟨p, List.mem_cons_of_mem _ (List.mem_append_right _ (List.mem_cons_of_mem _ hp)), rfl⟩
  · rintro i ⟨zs, kz⟩ v m₁ h6 tk6 own hi hv ⟨q1, q2, q3, q4⟩ hown hnm F7 N7
    dsimp only at q1 q2 q3 q4 N7
    have hi' : i < (out2 ++ out).length := by rw [List.length_map] at hi; exact hi
    refine cps fun P9 k9 => ?_
    obtain ⟨at', host, thx, tp, e1, e2⟩ := hall _ (List.getElem_mem hi')
    refine k9 ?_
    clear k9 P9
    obtain rfl : v = .ref at' := by
      rw [List.getElem?_map, List.getElem?_eq_getElem hi'] at hv
      rw [← e1]
      exact (Option.some.inj hv).symm
    have F8 := fr_names _ F7 hnm
    clear F7
    dsimp only [kstB_cons, kstB_nil] at F8
    (try k_fold)
    have hzl : zs.length ≤ 24 := by
      have := q3.length_eq
      rw [List.length_map, List.length_take, List.length_map] at this
      rw [List.length_append] at hi' q1
      lia
    have hIsT : (at', tup [.str host thx, .int (out2 ++ out)[i].2 tp]) ∈ own ++ (cellsL L o2 ++ (hl, lst (fsts zs) kz) :: ((ca, lst (fsts (out2 ++ out)) 0) :: R)) := List.mem_append_right _ (List.mem_append_right _ (List.mem_cons_of_mem _ (List.mem_cons_of_mem _ e2)))
    k_steps
    (intro stop9; clear stop9)
    rename_i h9 F9 N9 _ _
    have hOwn : ∀ p ∈ own ++ cellsL L o2, p.1 ≠ hl := fun p hp => by
      rcases List.mem_append.mp hp with hp | hp
      · rcases hown p hp with q | q
        · rw [q]; exact Nat.ne_of_gt hhc
        · exact Nat.ne_of_gt (q (hl, lst (fsts []) 0) (by walk_at "member"))
      · exact hCh p hp
    have hRest : ∀ p ∈ (ca, lst (fsts (out2 ++ out)) 0) :: R, p.1 ≠ hl := all_cons (Nat.ne_of_gt hhc) (fun p hp => hRh p hp)
    refine heappush_spec (x := (.int (out2 ++ out)[i].2 tp, (out2 ++ out)[i].2)) (Ok := okInt) (tups := []) (zs := zs) (n := kz) G F9 N9 (by walk_at "room") (by walk_at "room") (by walk_at "member") (by lia) cmp_int q4 ⟨tp, rfl⟩ (fun _ h => nomatch h) fun h10 tk10 n10 F10 N10 => ?_
    k_steps
    refine t_end (hpush zs (.int (out2 ++ out)[i].2 tp, (out2 ++ out)[i].2), n10) F10 N10 ?_ (List.forall_mem_cons.mpr ⟨by with_unfolding_all exact Eq.refl (some _), List.forall_mem_cons.mpr ⟨by with_unfolding_all exact Eq.refl (some _), fun _ h => nomatch h⟩⟩) ⟨hi', hpush_heap q2, ?_, ?_⟩
    · rw [← List.append_assoc, ← List.append_assoc]
      exact put_at hOwn hRest
    · refine hpush_perm.trans ?_
      have hi2 : i < (keys (out2 ++ out)).length := by rw [List.length_map]; exact hi'
      rw [List.take_succ_eq_append_getElem hi2]
      have e9 : (keys (out2 ++ out))[i] = (out2 ++ out)[i].2 := List.getElem_map ..
      rw [e9]
      exact (List.Perm.cons _ q3).trans (List.perm_append_comm (l₁ := [(out2 ++ out)[i].2]))
    · intro z hz
      rcases hpush_mem z hz with rfl | hz
      · exact ⟨tp, rfl⟩
      · exact q4 z hz
  · rintro ⟨zs, kz⟩ m₁ h6 tk6 ⟨q1, q2, q3, q4⟩ hnm F7 N7
    dsimp only at q1 q2 q3 q4 N7 ⊢
    rw [List.length_map, List.take_of_length_le (by rw [List.length_map]; exact Nat.le_refl _), keys_append, hout, hout2] at q3
    have F8 := fr_names _ F7 hnm
    clear F7
    dsimp only [kstB_cons, kstB_nil] at F8
    (try k_fold)
    have hc2' : (o2 2).data = .cell (some (.int (low : Nat) t2)) := by rw [ho2 2 (by decide)]; exact hc2
    have hP0 : ∀ p ∈ iz W2 ++ iz W1, p < (low : Int) + 12 := fun p hp => by
      rcases List.mem_append.mp hp with hp | hp
      · obtain ⟨q, hq, rfl⟩ := List.mem_map.mp hp
        have := hlt2 q hq
        show (q : Int) < _
        lia
      · obtain ⟨q, hq, rfl⟩ := List.mem_map.mp hp
        have := hlt1 q hq
        show (q : Int) < _
        lia
    have hPl : (iz W2 ++ iz W1).length = W2.length + W1.length := by rw [List.length_append, iz_length, iz_length]
    have hzl : zs.length = (iz W2 ++ iz W1).length := by
      have := q3.length_eq
      rw [List.length_map] at this
      exact this
    have hcnt : (keys zs).countP (fun z => decide (z < (low : Int) + 12)) = (iz W2 ++ iz W1).length := by
      rw [q3.countP_eq]
      exact List.countP_eq_length.mpr fun p hp => by simpa using hP0 p hp
    k_steps
    (intro stop9; clear stop9)
    refine assign_listcomp_start _ (by with_unfolding_all rfl) (by with_unfolding_all rfl) rfl (by decide) ?_
    k_steps
    refine m_add F8 N7 (by walk_at "member") (by walk_at "member") hsl fun cb h9 F9 N9 hlt9 => ?_
    rw [← fsts_append] at N9
    have hhb : hl < cb := hlt9 (hl, lst (fsts zs) kz) (by walk_at "member")
    have hcl : (fsts (out2 ++ out)).length = (iz W2 ++ iz W1).length := by rw [List.length_map, List.length_append, hPl]; lia
    refine lc_assign (L := L) (s := ⟨_, _, _, _, _⟩) (l := cb) (vs := fsts (out2 ++ out)) (n := 0) hh F9 N9 List.mem_cons_self (σ := List Item × Nat × List Item) (fun c => cellsL L o2 ++ (hl, lst (fsts c.1) c.2.1) :: R)
      (fun i c ys => PPInv (iz W2 ++ iz W1) ((low : Int) + 12) i c.1 c.2.2 ∧ ys = fsts c.2.2 ∧ i ≤ (iz W2 ++ iz W1).length) (zs, kz, []) (by (first | ((repeat' (first | (with_reducible refine all_cons ?_ ?_) | (with_reducible refine all_app ?_ ?_))) <;> (first | walk_at "member" | exact List.forall_mem_nil _ | (intro p hp; walk_at "member"))) | (intro p hp; (simp only [List.mem_cons, List.mem_append, List.not_mem_nil, or_false, List.nil_append, List.cons_append, List.append_nil] at hp ⊢); grind))) ?_ ⟨⟨q2, by simpa using q3, List.Pairwise.nil, (fun _ h => nomatch h), hzl, by rw [hcnt]; rfl, q4, (fun _ h => nomatch h), rfl⟩, rfl, Nat.zero_le _⟩ ?_ (by decide) rfl rfl rfl rfl rfl ?_ ?_
    · rintro i c ys - p hp
      rcases List.mem_append.mp hp with hp | hp
      · exact ⟨p, List.mem_cons_of_mem _ (List.mem_append_left _ hp), rfl⟩
      rcases List.mem_cons.mp hp with rfl | hp
      · exact ⟨(hl, lst (fsts zs) kz), List.mem_cons_of_mem _ (List.mem_append_right _ List.mem_cons_self), rfl⟩
      · exact ⟨p, List.mem_cons_of_mem _ (List.mem_append_right _ (List.mem_cons_of_mem _ (List.mem_cons_of_mem _ hp))), rfl⟩
    · intro i
      refine fa3 fun z1 k1 o1 => ?_
      rintro ys ⟨H, rfl, hle⟩
      have h2 := H.outl
      dsimp only at h2
      show (List.map _ o1).length ≤ 1000
      rw [List.length_map]
      lia
    · intro i
      refine fa3 fun z1 k1 o1 => ?_
      rintro ys v h10 tk10 C oC mC X hi hv ⟨H, rfl, hle⟩ hO hmx hX F10 N10
      dsimp only at H N10
      rw [hcl] at hi
      have hz1 : z1.length ≤ 24 := by have := H.len; lia
      have hX' : ∀ p ∈ ((C, oC) :: X) ++ cellsL L o2, p.1 ≠ hl := fun p hp => by
        rcases List.mem_append.mp hp with hp | hp
        · rcases hX p hp with q | q
          · rw [q]; exact Nat.ne_of_gt hhb
          · exact Nat.ne_of_gt (q (hl, lst (fsts zs) kz) (by walk_at "member"))
        · exact hCh p hp
      k_steps
      (intro stop9; clear stop9)
      refine heappushpop_spec (x := (.int ((low : Int) + 12) _, (low : Int) + 12)) (Ok := okInt) (tups := []) (zs := z1) (n := k1) G F10 N10 (by walk_at "room") (by walk_at "room") (by walk_at "member") (by lia) cmp_int H.okz ⟨_, rfl⟩ (fun _ h => nomatch h) fun h11 tk11 n11 F11 N11 => ?_
      k_steps
      refine c_end (_, n11, o1 ++ [_]) F11 N11 ?_ ⟨H.step hi, (fsts_snoc o1 _).symm, hi⟩
      rw [← List.append_assoc, ← List.append_assoc]
      exact put_at hX' hRh
    · intro of
      refine fa3 fun z1 k1 o1 => ?_
      rintro ys h10 tk10 k10 ⟨H, rfl, hle⟩ F10 N10 hlt10
      dsimp only at H N10 ⊢
      rw [hcl] at H
      obtain ⟨hk1, hk2⟩ := H.fin hP0
      have hho : hl < of := hlt10 (hl, lst (fsts zs) kz) (by walk_at "member")
      exact K of o1 k10 hl z1 k1 o2 _ h10 _ hk2 H.sorted H.oko (by rw [hk1, hPl]) H.okz hd2 ho2 (fun p hp => hltl p (List.mem_append_right _ hp)) hLh hho (by with_unfolding_all rfl) F10 (News.sub N10 (by (first | ((repeat' (first | (with_reducible refine all_cons ?_ ?_) | (with_reducible refine all_app ?_ ?_))) <;> (first | walk_at "member" | exact List.forall_mem_nil _ | (intro p hp; walk_at "member"))) | (intro p hp; (simp only [List.mem_cons, List.mem_append, List.not_mem_nil, or_false, List.nil_append, List.cons_append, List.append_nil] at hp ⊢); grind)))))
section
local macro_rules | `(tactic| walk_at "execs cons") => `(tactic| refine Stop.mk ?_)
set_option maxRecDepth 100000 in
set_option maxHeartbeats 4000000 in
theorem law_9 {w : World} {A : Around} {h₀ : Heap} {L f ol tl hl of : Addr} {cd : Value} {s : Shared} {m : Str → Option Value} {ov tv hv ofv : List Value} {W1 W2 : List Nat} {xs : List Int} {ok tk kh kof low : Nat} {t2 : Tok} {o : Nat → Obj} {R : List (Addr × Obj)} {Q : Flow → Shared → Prop}
    (G1 : Sit1 w A h₀ L (lawEnv L f cd)) (F : Fr h₀ L s.heap m) (hd : A.depth + 16 < recursionLimit) (hu : A.units + 128 < cLine)
    (hW1 : W1.length ≤ 12) (hW2 : W2.length ≤ 12) (hov : IntsAre ov (iz W1)) (htv : IntsAre tv (iz W2)) (hhv : IntsAre hv (List.replicate (W2.length + W1.length) ((low : Int) + 12))) (hofv : IntsAre ofv xs) (hxs : xs.Perm (iz W2 ++ iz W1)) (hxso : xs.Pairwise (· ≤ ·))
    (hc2 : (o 2).data = .cell (some (.int (low : Nat) t2))) (hc5 : (o 5).data = .cell (some (.ref ol))) (hc6 : (o 6).data = .cell (some (.ref tl))) (hc10 : (o 10).data = .cell (some (.ref hl)))
    (hol : (ol, lst ov ok) ∈ R) (htl : (tl, lst tv tk) ∈ R) (hhl : (hl, lst hv kh) ∈ R) (hof : (of, lst ofv kof) ∈ R)
    (hm : ∀ p ∈ [(Str.ofString "off", Value.ref of)], m p.1 = some p.2)
    (N : News h₀ L s.heap (cellsL L o ++ R))
    (K : ∀ h' tk', Fr h₀ L h' m → News h₀ L h' (cellsL L o ++ R) → wpAny (model PG w) A (execs (lawBody.drop 26) (lawEnv L f cd)) Q (fun _ _ => False) { s with heap := h', toks := tk' }) :
    wpAny (model PG w) A (execs (lawBody.drop 25) (lawEnv L f cd)) Q (fun _ _ => False) s := by
  have KX := G1.inn
  have hh := G1.hh
  refine cps fun P9 k9 => ?_
  obtain ⟨loose, mean, mg, mb, hloose, T⟩ := G1.top
  refine k9 ?_
  clear k9 P9
  have F' := fr_names _ F hm
  clear F
  dsimp only [kstB_cons, kstB_nil] at F'
  conv => pattern List.drop _ _; whnf
  unfold lawEnv
  conv => pattern lawScope; whnf
  have e1 := hov.length
  have e2 := htv.length
  have e3 := hofv.length
  have e4 := hxs.length_eq
  rw [iz_length] at e1 e2
  rw [List.length_append, iz_length, iz_length] at e4
  w_on
  w_strict (
  refine wpAny_execs_cons ?_
  k_steps
  (intro stop9; clear stop9)
  rename_i D2 v2 n2 c2 h2 F2 N2 i2 _ p2 s2 _ _ l2
  have ex : n2 = xs := sorted_eq (p2.trans (List.perm_append_comm.trans hxs.symm)) s2 hxso
  subst ex
  refine ne_ints (vs := ofv) (ws := v2) (n := kof) (n2 := c2) N2 (by walk_at "member") List.mem_cons_self hofv i2 (by lia) ?_
  have N3 : News h₀ L h2 (cellsL L o ++ R) := News.sub N2 fun p hp => List.mem_cons_of_mem _ (List.mem_cons_of_mem _ hp)
  clear N2
  k_steps
  (intro stop9; clear stop9)
  refine listcomp_start _ (by with_unfolding_all rfl) rfl (by decide) ?_
  k_steps
  refine lc_none (l := of) (vs := ofv) (n := kof) hh F2 N3 (List.mem_append_right _ hof) (σ := Unit) (fun _ => cellsL L o ++ R) (fun i _ ys => i ≤ ofv.length ∧ IntsAre ys (List.replicate i ((low : Int) + 12))) () (fun _ h => h) (fun _ _ _ _ p hp => ⟨p, hp, rfl⟩) ⟨Nat.zero_le _, IntsAre.nil⟩ ?_ (by decide) rfl rfl ?_ ?_
  · rintro i c ys ⟨h9, hys⟩
    rw [hys.length, List.length_replicate]
    lia
  · rintro i c ys v h tk C oC mC X hi hv ⟨h9, hys⟩ hO hmx hX F4 N4
    dsimp only at N4
    k_steps
    refine c_end () F4 N4 (fun _ h => h) ⟨hi, ?_⟩
    rw [List.replicate_succ']
    exact ints_snoc hys
  · rintro D c ys h tk k ⟨_, hys⟩ F4 N4 hlt4
    rw [e3, e4] at hys
    k_steps
    (intro stop9; clear stop9)
    refine ne_ints (vs := hv) (ws := ys) (n := kh) (n2 := k) N4 (List.mem_cons_of_mem _ (List.mem_append_right _ hhl)) List.mem_cons_self hhv hys (by lia) ?_
    k_steps
    (intro stop9; clear stop9)
    have F5 : Fr h₀ L h (kstB m [(Str.ofString "off", .ref of)]) := F4
    rw [kstB_self hm] at F5
    exact K _ _ F5 (News.sub N4 fun p hp => List.mem_cons_of_mem _ hp))
end
section
theorem sdiff_filter : ∀ {xs ys : List Int}, xs.Pairwise (· < ·) → ys.Pairwise (· < ·) → (sdiff xs ys).1 = xs.filter (fun z => !(ys.contains z)) ∧ (sdiff xs ys).2 = ys.filter (fun z => !(xs.contains z))
  | [], ys, _, _ => by
    rw [sdiff_nil_left]
    exact ⟨rfl, (List.filter_eq_self.mpr fun z _ => by simp).symm⟩
  | x :: xs, [], _, _ => by
    rw [sdiff_nil]
    exact ⟨(List.filter_eq_self.mpr fun z _ => by simp).symm, rfl⟩
  | x :: xs, y :: ys, hx, hy => by
    have px := List.pairwise_cons.mp hx
    have py := List.pairwise_cons.mp hy
    by_cases h : x < y
    · obtain ⟨a, b⟩ := sdiff_filter px.2 hy
      have e : sdiff (x :: xs) (y :: ys) = (x :: (sdiff xs (y :: ys)).1, (sdiff xs (y :: ys)).2) := by simp only [sdiff, if_pos h]
      rw [e]
      have hn : (y :: ys).contains x = false := by
        simp only [List.contains_eq_mem, decide_eq_false_iff_not, List.mem_cons, not_or]
        exact ⟨by lia, fun q => by have := py.1 x q; lia⟩
      refine ⟨?_, ?_⟩
      · show x :: (sdiff xs (y :: ys)).1 = _
        rw [List.filter_cons, hn, a]
        rfl
      · show (sdiff xs (y :: ys)).2 = _
        rw [b]
        refine List.filter_congr fun z hz => ?_
        have hzx : z ≠ x := fun q => by
          rw [q] at hz
          have : (y :: ys).contains x = true := by simpa using hz
          rw [hn] at this; cases this
        simp [hzx]
    · by_cases h' : y < x
      · obtain ⟨a, b⟩ := sdiff_filter hx py.2
        have e : sdiff (x :: xs) (y :: ys) = ((sdiff (x :: xs) ys).1, y :: (sdiff (x :: xs) ys).2) := by simp only [sdiff, if_neg h, if_pos h']
        rw [e]
        have hn : (x :: xs).contains y = false := by
          simp only [List.contains_eq_mem, decide_eq_false_iff_not, List.mem_cons, not_or]
          exact ⟨by lia, fun q => by have := px.1 y q; lia⟩
        refine ⟨?_, ?_⟩
        · show (sdiff (x :: xs) ys).1 = _
          rw [a]
          refine List.filter_congr fun z hz => ?_
          have hzx : z ≠ y := fun q => by
            rw [q] at hz
            have : (x :: xs).contains y = true := by simpa using hz
            rw [hn] at this; cases this
          simp [hzx]
        · show y :: (sdiff (x :: xs) ys).2 = _
          rw [List.filter_cons, hn, b]
          rfl
      · obtain ⟨a, b⟩ := sdiff_filter px.2 py.2
        have exy : x = y := by lia
        subst exy
        have e : sdiff (x :: xs) (x :: ys) = sdiff xs ys := by simp only [sdiff, if_neg h]
        rw [e]
        refine ⟨?_, ?_⟩
        · rw [List.filter_cons, a]
          simp only [List.contains_cons, beq_self_eq_true, Bool.true_or, Bool.not_true, Bool.false_eq_true, if_false]
          refine List.filter_congr fun z hz => ?_
          have : z ≠ x := fun q => by have := px.1 z hz; lia
          simp [this]
        · rw [List.filter_cons, b]
          simp only [List.contains_cons, beq_self_eq_true, Bool.true_or, Bool.not_true, Bool.false_eq_true, if_false]
          refine List.filter_congr fun z hz => ?_
          have : z ≠ x := fun q => by have := py.1 z hz; lia
          simp [this]
theorem iz_contains (W : List Nat) (p : Nat) : (iz W).contains (p : Int) = W.contains p := by
  rw [Bool.eq_iff_iff, List.contains_iff_mem, List.contains_iff_mem]
  constructor
  · intro h
    obtain ⟨q, hq, e⟩ := List.mem_map.mp h
    have : q = p := by have e' : (q : Int) = (p : Int) := e; lia
    rw [← this]; exact hq
  · intro h
    exact List.mem_map.mpr ⟨p, h, rfl⟩
theorem iz_filterN (W : List Nat) (f : Int → Bool) (g' : Nat → Bool) (h : ∀ p ∈ W, f (p : Int) = g' p) : (iz W).filter f = iz (W.filter g') := by
  unfold iz
  rw [List.filter_map]
  congr 1
  exact List.filter_congr fun p hp => h p hp
theorem iz_strict {W : List Nat} (h : W.Pairwise (· < ·)) : (iz W).Pairwise (· < ·) := by
  unfold iz
  rw [List.pairwise_map]
  exact h.imp fun q => by lia
local macro_rules | `(tactic| walk_at "execs cons") => `(tactic| refine Stop.mk ?_)
set_option maxRecDepth 100000 in
set_option maxHeartbeats 4000000 in
theorem law_10 {w : World} {A : Around} {h₀ : Heap} {L f ol tl : Addr} {cd : Value} {s : Shared} {m : Str → Option Value} {ov tv : List Value} {W1 W2 : List Nat} {vo : Value} {ok tk : Nat} {o : Nat → Obj} {R : List (Addr × Obj)} {Q : Flow → Shared → Prop}
    (G : Sit w A h₀ L) (G1 : Sit1 w A h₀ L (lawEnv L f cd)) (F : Fr h₀ L s.heap m) (hd : A.depth + 16 < recursionLimit) (hu : A.units + 128 < cLine)
    (hW1 : W1.length ≤ 12) (hW2 : W2.length ≤ 12) (hs1 : W1.Pairwise (· < ·)) (hs2 : W2.Pairwise (· < ·)) (hov : IntsAre ov (iz W1)) (htv : IntsAre tv (iz W2))
    (hc5 : (o 5).data = .cell (some (.ref ol))) (hc6 : (o 6).data = .cell (some (.ref tl)))
    (hol : (ol, lst ov ok) ∈ R) (htl : (tl, lst tv tk) ∈ R)
    (hm : ∀ p ∈ [(Str.ofString "off", vo)], m p.1 = some p.2)
    (N : News h₀ L s.heap (cellsL L o ++ R))
    (K : ∀ mi un mv uv k1 k2 m' h' tk', IntsAre mv (iz (W1.filter fun p => !(W2.contains p))) → IntsAre uv (iz (W2.filter fun p => !(W1.contains p))) → (∀ p ∈ R, p.1 < mi) → mi < un → m' (Str.ofString "off") = some vo → m' (Str.ofString "lacks") = some (.ref mi) → m' (Str.ofString "strange") = some (.ref un) → Fr h₀ L h' m' → News h₀ L h' (cellsL L o ++ (mi, lst mv k1) :: (un, lst uv k2) :: R) →
      wpAny (model PG w) A (execs (lawBody.drop 27) (lawEnv L f cd)) Q (fun _ _ => False) { s with heap := h', toks := tk' }) :
    wpAny (model PG w) A (execs (lawBody.drop 26) (lawEnv L f cd)) Q (fun _ _ => False) s := by
  have KX := G1.inn
  have hh := G1.hh
  refine cps fun P9 k9 => ?_
  obtain ⟨loose, mean, mg, mb, hloose, T⟩ := G1.top
  refine k9 ?_
  clear k9 P9
  have F' := fr_names _ F hm
  clear F
  dsimp only [kstB_cons, kstB_nil] at F'
  conv => pattern List.drop _ _; whnf
  unfold lawEnv
  conv => pattern lawScope; whnf
  w_on
  w_strict (
  refine wpAny_execs_cons ?_
  k_steps
  (intro stop9; clear stop9)
  refine sdiff_spec (us := ov) (ws := tv) (n1 := ok) (n2 := tk) G1 (by assumption) (by assumption) (by walk_at "room") (by walk_at "room") (List.mem_append_right _ hol) (List.mem_append_right _ htl) hov htv (by rw [iz_length]; lia) (by rw [iz_length]; lia) (iz_strict hs1) (iz_strict hs2) fun TT mi un mv uv k1 k2 h2 tk2 F2 N2 hlt2 hmu huT hmv huv => ?_
  obtain ⟨e1, e2⟩ := sdiff_filter (iz_strict hs1) (iz_strict hs2)
  rw [e1, iz_filterN W1 _ _ (fun p _ => by rw [iz_contains])] at hmv
  rw [e2, iz_filterN W2 _ _ (fun p _ => by rw [iz_contains])] at huv
  k_steps
  (intro stop9; clear stop9)
  rename_i h3 F3 N3
  exact K mi un mv uv k1 k2 _ _ _ hmv huv (fun p hp => hlt2 p (List.mem_append_right _ hp)) hmu (by with_unfolding_all rfl) (by with_unfolding_all rfl) (by with_unfolding_all rfl) F3 (News.sub N3 (by (first | ((repeat' (first | (with_reducible refine all_cons ?_ ?_) | (with_reducible refine all_app ?_ ?_))) <;> (first | walk_at "member" | exact List.forall_mem_nil _ | (intro p hp; walk_at "member"))) | (intro p hp; (simp only [List.mem_cons, List.mem_append, List.not_mem_nil, or_false, List.nil_append, List.cons_append, List.append_nil] at hp ⊢); grind)))))
theorem filt_comp {f : Int → Bool} {xs : List Int} {i : Nat} (hi : i < xs.length) : (xs.take (i + 1)).filter f = (xs.take i).filter f ++ (if f xs[i] then [xs[i]] else []) := by
  rw [List.take_succ_eq_append_getElem hi, List.filter_append]
  congr 1
  rw [List.filter_cons]
  cases f xs[i] <;> rfl
set_option maxRecDepth 100000 in
set_option maxHeartbeats 4000000 in
theorem law_11 {w : World} {A : Around} {h₀ : Heap} {L f ol tl bl mi un : Addr} {cd : Value} {s : Shared} {m : Str → Option Value} {ov tv bv mv uv : List Value} {W1 W2 WB : List Nat} {ok tkk bk k1 k2 : Nat} {o : Nat → Obj} {R : List (Addr × Obj)} {Q : Flow → Shared → Prop}
    (G1 : Sit1 w A h₀ L (lawEnv L f cd)) (F : Fr h₀ L s.heap m) (hd : A.depth + 16 < recursionLimit) (hu : A.units + 128 < cLine)
    (hW1 : W1.length ≤ 12) (hW2 : W2.length ≤ 12) (hov : IntsAre ov (iz W1)) (htv : IntsAre tv (iz W2)) (hbv : IntsAre bv (iz WB)) (hb1 : ∀ p ∈ W1, WB.contains p = W2.contains p) (hb2 : ∀ p ∈ W2, WB.contains p = W1.contains p)
    (hmv : IntsAre mv (iz (W1.filter fun p => !(W2.contains p)))) (huv : IntsAre uv (iz (W2.filter fun p => !(W1.contains p))))
    (hc5 : (o 5).data = .cell (some (.ref ol))) (hc6 : (o 6).data = .cell (some (.ref tl))) (hc7 : (o 7).data = .cell (some (.ref bl)))
    (hol : (ol, lst ov ok) ∈ R) (htl : (tl, lst tv tkk) ∈ R) (hbl : (bl, lst bv bk) ∈ R) (hmi : (mi, lst mv k1) ∈ R) (hun : (un, lst uv k2) ∈ R)
    (hm : ∀ p ∈ [(Str.ofString "lacks", Value.ref mi), (Str.ofString "strange", .ref un)], m p.1 = some p.2)
    (N : News h₀ L s.heap (cellsL L o ++ R))
    (K : ∀ h' tk', Fr h₀ L h' m → News h₀ L h' (cellsL L o ++ R) → wpAny (model PG w) A (execs (lawBody.drop 28) (lawEnv L f cd)) Q (fun _ _ => False) { s with heap := h', toks := tk' }) :
    wpAny (model PG w) A (execs (lawBody.drop 27) (lawEnv L f cd)) Q (fun _ _ => False) s := by
  have KX := G1.inn
  have hh := G1.hh
  refine cps fun P9 k9 => ?_
  obtain ⟨loose, mean, mg, mb, hloose, T⟩ := G1.top
  refine k9 ?_
  clear k9 P9
  have F' := fr_names _ F hm
  clear F
  dsimp only [kstB_cons, kstB_nil] at F'
  conv => pattern List.drop _ _; whnf
  unfold lawEnv
  conv => pattern lawScope; whnf
  have e1 := hov.length
  have e2 := htv.length
  have hf1 : (iz W1).filter (fun z => !((iz WB).any (· == z))) = iz (W1.filter fun p => !(W2.contains p)) := iz_filterN W1 _ _ (fun p hp => by rw [any_iz, ← hb1 p hp])
  have hf2 : (iz W2).filter (fun z => !((iz WB).any (· == z))) = iz (W2.filter fun p => !(W1.contains p)) := iz_filterN W2 _ _ (fun p hp => by rw [any_iz, ← hb2 p hp])
  w_on
  w_strict (
  refine wpAny_execs_cons ?_
  k_steps
  (intro stop9; clear stop9)
  refine listcomp_start _ (by with_unfolding_all rfl) rfl (by decide) ?_
  k_steps
  refine lc_none (l := ol) (vs := ov) (n := ok) hh (by assumption) (by assumption) (List.mem_append_right _ hol) (σ := Unit) (fun _ => cellsL L o ++ R) (fun i _ ys => i ≤ ov.length ∧ IntsAre ys (((iz W1).take i).filter (fun z => !((iz WB).any (· == z))))) () (fun _ h => h) (fun _ _ _ _ p hp => ⟨p, hp, rfl⟩) ⟨Nat.zero_le _, IntsAre.nil⟩ ?_ (by decide) rfl rfl ?_ ?_
  · rintro i c ys ⟨h9, hys⟩
    rw [hys.length]
    exact Nat.le_trans (List.length_filter_le _ _) (by rw [List.length_take, iz_length]; lia)
  · rintro i c ys v h tk C oC mC X hi hv ⟨h9, hys⟩ hO hmx hX F4 N4
    dsimp only at N4
    obtain ⟨hi2, tv', rfl⟩ := ints_at hov hv
    refine wpAny_tests_one ?_
    k_steps
    refine notin_list_ints (m_isList (vs := bv) (n := bk) N4 (by walk_at "member")) (ns := iz WB) hbv ?_
    k_steps
    · rename_i e9
      refine c_end () F4 N4 (fun _ h => h) ⟨hi, ?_⟩
      rw [filt_comp hi2, if_neg (by simp only [e9]; decide), List.append_nil]
      exact hys
    · rename_i e9
      refine c_end () F4 N4 (fun _ h => h) ⟨hi, ?_⟩
      rw [filt_comp hi2, if_pos (by simp only [e9]; decide)]
      exact ints_snoc hys
  · rintro D c ys h tk k ⟨_, hys⟩ F4 N4 hlt4
    rw [e1, List.take_length, hf1] at hys
    k_steps
    (intro stop9; clear stop9)
    refine ne_ints (vs := mv) (ws := ys) (n := k1) (n2 := k) N4 (List.mem_cons_of_mem _ (List.mem_append_right _ hmi)) List.mem_cons_self hmv hys (by lia) ?_
    have N5 : News h₀ L h (cellsL L o ++ R) := News.sub N4 fun p hp => List.mem_cons_of_mem _ hp
    clear N4
    k_steps
    (intro stop9; clear stop9)
    refine listcomp_start _ (by with_unfolding_all rfl) rfl (by decide) ?_
    k_steps
    refine lc_none (l := tl) (vs := tv) (n := tkk) hh F4 N5 (List.mem_append_right _ htl) (σ := Unit) (fun _ => cellsL L o ++ R) (fun i _ ys => i ≤ tv.length ∧ IntsAre ys (((iz W2).take i).filter (fun z => !((iz WB).any (· == z))))) () (fun _ h => h) (fun _ _ _ _ p hp => ⟨p, hp, rfl⟩) ⟨Nat.zero_le _, IntsAre.nil⟩ ?_ (by decide) rfl rfl ?_ ?_
    · rintro i c ys ⟨h9, hys⟩
      rw [hys.length]
      exact Nat.le_trans (List.length_filter_le _ _) (by rw [List.length_take, iz_length]; lia)
    · rintro i c ys v h tk C oC mC X hi hv ⟨h9, hys⟩ hO hmx hX F4 N4
      dsimp only at N4
      obtain ⟨hi2, tv', rfl⟩ := ints_at htv hv
      refine wpAny_tests_one ?_
      k_steps
      refine notin_list_ints (m_isList (vs := bv) (n := bk) N4 (by walk_at "member")) (ns := iz WB) hbv ?_
      k_steps
      · rename_i e9
        refine c_end () F4 N4 (fun _ h => h) ⟨hi, ?_⟩
        rw [filt_comp hi2, if_neg (by simp only [e9]; decide), List.append_nil]
        exact hys
      · rename_i e9
        refine c_end () F4 N4 (fun _ h => h) ⟨hi, ?_⟩
        rw [filt_comp hi2, if_pos (by simp only [e9]; decide)]
        exact ints_snoc hys
    · rintro D c ys h tk k ⟨_, hys⟩ F4 N4 hlt4
      rw [e2, List.take_length, hf2] at hys
      k_steps
      (intro stop9; clear stop9)
      refine ne_ints (vs := uv) (ws := ys) (n := k2) (n2 := k) N4 (List.mem_cons_of_mem _ (List.mem_append_right _ hun)) List.mem_cons_self huv hys (by lia) ?_
      k_steps
      (intro stop9; clear stop9)
      have F5 : Fr h₀ L h (kstB m [(Str.ofString "lacks", Value.ref mi), (Str.ofString "strange", .ref un)]) := F4
      rw [kstB_self hm] at F5
      exact K _ _ F5 (News.sub N4 fun p hp => List.mem_cons_of_mem _ hp))
set_option maxRecDepth 100000 in
set_option maxHeartbeats 4000000 in
theorem law_12 {w : World} {A : Around} {h₀ : Heap} {L f ol bl mi : Addr} {cd : Value} {s : Shared} {m : Str → Option Value} {ov bv mv : List Value} {W1 W2 WB : List Nat} {ok bk k1 : Nat} {o : Nat → Obj} {R : List (Addr × Obj)} {Q : Flow → Shared → Prop}
    (G1 : Sit1 w A h₀ L (lawEnv L f cd)) (F : Fr h₀ L s.heap m) (hd : A.depth + 16 < recursionLimit) (hu : A.units + 128 < cLine)
    (hW1 : W1.length ≤ 12) (hs1 : W1.Pairwise (· < ·)) (hov : IntsAre ov (iz W1)) (hbv : IntsAre bv (iz WB)) (hmv : IntsAre mv (iz (W1.filter fun p => !(W2.contains p)))) (hB : WB = W1.filter fun p => W2.contains p)
    (hc5 : (o 5).data = .cell (some (.ref ol))) (hc7 : (o 7).data = .cell (some (.ref bl)))
    (hol : (ol, lst ov ok) ∈ R) (hbl : (bl, lst bv bk) ∈ R) (hmi : (mi, lst mv k1) ∈ R)
    (hm : ∀ p ∈ [(Str.ofString "lacks", Value.ref mi)], m p.1 = some p.2)
    (N : News h₀ L s.heap (cellsL L o ++ R))
    (K : ∀ h' tk', Fr h₀ L h' m → News h₀ L h' (cellsL L o ++ R) → wpAny (model PG w) A (execs (lawBody.drop 29) (lawEnv L f cd)) Q (fun _ _ => False) { s with heap := h', toks := tk' }) :
    wpAny (model PG w) A (execs (lawBody.drop 28) (lawEnv L f cd)) Q (fun _ _ => False) s := by
  have KX := G1.inn
  have hh := G1.hh
  refine cps fun P9 k9 => ?_
  obtain ⟨loose, mean, mg, mb, hloose, T⟩ := G1.top
  refine k9 ?_
  clear k9 P9
  have F' := fr_names _ F hm
  clear F
  dsimp only [kstB_cons, kstB_nil] at F'
  conv => pattern List.drop _ _; whnf
  unfold lawEnv
  conv => pattern lawScope; whnf
  have hs3 : (W1.filter fun p => !(W2.contains p)).Pairwise (· < ·) := hs1.filter _
  obtain ⟨e1, e2⟩ := sdiff_filter (iz_strict hs1) (iz_strict hs3)
  have f1 : (sdiff (iz W1) (iz (W1.filter fun p => !(W2.contains p)))).1 = iz WB := by
    rw [e1, hB]
    refine iz_filterN W1 _ _ fun p hp => ?_
    rw [iz_contains, Bool.eq_iff_iff]
    simp [hp]
  have f2 : (sdiff (iz W1) (iz (W1.filter fun p => !(W2.contains p)))).2 = [] := by
    rw [e2, List.filter_eq_nil_iff]
    intro z hz
    obtain ⟨p, hp, rfl⟩ := List.mem_map.mp hz
    have h9 : (iz W1).contains (p : Int) = true := by rw [iz_contains]; simpa using (List.mem_filter.mp hp).1
    rw [h9]; decide
  w_on
  w_strict (
  refine wpAny_execs_cons ?_
  k_steps
  (intro stop9; clear stop9)
  refine sdiff_spec (us := ov) (ws := mv) (n1 := ok) (n2 := k1) G1 (by assumption) (by assumption) (by walk_at "room") (by walk_at "room") (List.mem_append_right _ hol) (List.mem_append_right _ hmi) hov hmv (by rw [iz_length]; lia) (by rw [iz_length]; exact Nat.le_trans (List.length_filter_le _ _) (by lia)) (iz_strict hs1) (iz_strict hs3) fun TT m2 u2 mv2 uv2 k2 k3 h2 tk2 F2 N2 hlt2 hmu huT hmv2 huv2 => ?_
  rw [f1] at hmv2
  rw [f2] at huv2
  k_steps
  (intro stop9; clear stop9)
  rename_i l3 h3 hl3 D3 h4 F4 N4 hl4
  refine ne_two (a := m2) (b := u2) (c := bl) (d := l3) (v1 := mv2) (v2 := uv2) (v3 := bv) (v4 := []) (k1 := k2) (k2 := k3) (k3 := bk) (k4 := 0) N4 (by walk_at "member") (by walk_at "member") (by walk_at "member") (by walk_at "member") (by walk_at "member") (by walk_at "member") (Nat.ne_of_gt (hlt2 (bl, lst bv bk) (List.mem_append_right _ hbl))) (Nat.ne_of_lt hl3.2.2.1) hmv2 huv2 hbv IntsAre.nil (by lia) ?_
  k_steps
  (intro stop9; clear stop9)
  have F5 : Fr h₀ L h4 (kstB m [(Str.ofString "lacks", Value.ref mi)]) := F4
  rw [kstB_self hm] at F5
  exact K _ _ F5 (News.sub N4 (by (first | ((repeat' (first | (with_reducible refine all_cons ?_ ?_) | (with_reducible refine all_app ?_ ?_))) <;> (first | walk_at "member" | exact List.forall_mem_nil _ | (intro p hp; walk_at "member"))) | (intro p hp; (simp only [List.mem_cons, List.mem_append, List.not_mem_nil, or_false, List.nil_append, List.cons_append, List.append_nil] at hp ⊢); grind)))))
end
section
theorem unoR_fst : ∀ {xs ys mis : List Int}, xs.Nodup → (unoR xs ys mis).1 = mis ++ xs.filter (fun z => !(ys.contains z))
  | [], ys, mis, _ => by simp [unoR]
  | x :: r, ys, mis, h => by
    have hn := List.nodup_cons.mp h
    by_cases hx : x ∈ ys
    · have hc : ys.contains x = true := by simpa using hx
      rw [unoR, if_pos hx, unoR_fst hn.2, List.filter_cons, hc]
      simp only [Bool.not_true, Bool.false_eq_true, if_false]
      congr 1
      refine List.filter_congr fun z hz => ?_
      have hzx : z ≠ x := fun q => hn.1 (q ▸ hz)
      have : (ys.erase x).contains z = ys.contains z := by
        rw [Bool.eq_iff_iff, List.contains_iff_mem, List.contains_iff_mem]
        exact List.mem_erase_of_ne hzx
      rw [this]
    · have hc : ys.contains x = false := by simpa using hx
      rw [unoR, if_neg hx, unoR_fst hn.2, List.filter_cons, hc]
      simp only [Bool.not_false, if_true, List.append_assoc]
      rfl
theorem unoR_sub : ∀ {xs ys mis : List Int}, (unoR xs ys mis).2.Sublist ys
  | [], ys, mis => List.Sublist.refl _
  | x :: r, ys, mis => by
    by_cases hx : x ∈ ys
    · rw [unoR, if_pos hx]
      exact unoR_sub.trans List.erase_sublist
    · rw [unoR, if_neg hx]
      exact unoR_sub
theorem unoR_count : ∀ {xs ys mis : List Int} (z : Int), (unoR xs ys mis).2.count z = ys.count z - xs.count z
  | [], ys, mis, z => by simp [unoR]
  | x :: r, ys, mis, z => by
    by_cases hx : x ∈ ys
    · rw [unoR, if_pos hx, unoR_count, List.count_erase, List.count_cons]
      lia
    · rw [unoR, if_neg hx, unoR_count, List.count_cons]
      by_cases e : x = z
      · subst e
        have : ys.count x = 0 := List.count_eq_zero.mpr hx
        rw [this, Nat.zero_sub, Nat.zero_sub]
      · have : (x == z) = false := by simpa using e
        simp [this]
theorem count_filt {V : List Int} {f : Int → Bool} {z : Int} : (V.filter f).count z = if f z then V.count z else 0 := by
  by_cases h : f z = true
  · rw [List.count_filter h, if_pos h]
  · rw [if_neg h]
    exact List.count_eq_zero.mpr fun q => h (List.mem_filter.mp q).2
theorem rest_eq {V xs : List Int} {f1 f2 : Int → Bool} (hV : V.Pairwise (· < ·)) (hx : xs.Perm (V.filter f2 ++ V.filter f1)) (hs : xs.Pairwise (· ≤ ·)) : (unoR V.reverse xs []).2 = V.filter (fun z => f1 z && f2 z) := by
  have hnd : V.Nodup := hV.imp fun h => Int.ne_of_lt h
  refine sorted_eq ?_ (hs.sublist unoR_sub) ((hV.imp fun h => Int.le_of_lt h).filter _)
  rw [List.perm_iff_count]
  intro z
  rw [unoR_count, hx.count_eq, List.count_append, count_filt, count_filt, count_filt, List.count_reverse]
  have h1 : V.count z ≤ 1 := List.nodup_iff_count.mp hnd z
  cases f1 z <;> cases f2 z <;> simp <;> lia
theorem due_eq {low : Nat} {xs Y : List Int} (h : ∀ z, xs.contains z = Y.contains z) : (unoR (iz (List.range' low 12)).reverse xs []).1 = ((List.range 12).map fun k => (low : Int) + 11 - (k : Nat)).filter (fun z => !(Y.contains z)) := by
  have hnd : (iz (List.range' low 12)).reverse.Nodup := by
    exact List.pairwise_reverse.mpr ((iz_strict (List.pairwise_lt_range' ..)).imp fun h => (Int.ne_of_lt h).symm)
  rw [unoR_fst hnd, List.nil_append]
  have e : (iz (List.range' low 12)).reverse = (List.range 12).map fun k => (low : Int) + 11 - (k : Nat) := by
    refine List.ext_getElem (by simp [iz]) fun i h1 h2 => ?_
    have hi : i < 12 := by simpa using h2
    rw [List.getElem_reverse]
    simp only [iz, List.getElem_map, List.getElem_range', List.getElem_range, List.length_map, List.length_range']
    lia
  rw [e]
  exact List.filter_congr fun z _ => by rw [h]
local macro_rules | `(tactic| walk_at "execs cons") => `(tactic| refine Stop.mk ?_)
set_option maxRecDepth 100000 in
set_option maxHeartbeats 4000000 in
theorem law_13 {w : World} {A : Around} {h₀ : Heap} {L f ol tl bl wl of : Addr} {cd : Value} {s : Shared} {m : Str → Option Value} {ov tv bv wv ofv : List Value} {W1 W2 WB : List Nat} {xs : List Int} {ok tkk bk wk kof low : Nat} {t2 : Tok} {o : Nat → Obj} {R : List (Addr × Obj)} {Q : Flow → Shared → Prop}
    (G : Sit w A h₀ L) (G1 : Sit1 w A h₀ L (lawEnv L f cd)) (F : Fr h₀ L s.heap m) (hd : A.depth + 16 < recursionLimit) (hu : A.units + 128 < cLine) (hlow : low < 100000)
    (hW1 : W1.length ≤ 12) (hW2 : W2.length ≤ 12) (hov : IntsAre ov (iz W1)) (htv : IntsAre tv (iz W2)) (hbv : IntsAre bv (iz WB)) (hwv : IntsAre wv (iz (List.range' low 12))) (hofv : IntsAre ofv xs) (hxl : xs.length ≤ 24)
    (hrest : (unoR (iz (List.range' low 12)).reverse xs []).2 = iz WB) (hmis : (unoR (iz (List.range' low 12)).reverse xs []).1 = ((List.range 12).map fun k => (low : Int) + 11 - (k : Nat)).filter (fun z => !((iz W1 ++ iz W2).any (· == z))))
    (hc2 : (o 2).data = .cell (some (.int (low : Nat) t2))) (hc3 : (o 3).data = .cell (some (.ref wl))) (hc5 : (o 5).data = .cell (some (.ref ol))) (hc6 : (o 6).data = .cell (some (.ref tl))) (hc7 : (o 7).data = .cell (some (.ref bl)))
    (hol : (ol, lst ov ok) ∈ R) (htl : (tl, lst tv tkk) ∈ R) (hbl : (bl, lst bv bk) ∈ R) (hwl : (wl, lst wv wk) ∈ R) (hof : (of, lst ofv kof) ∈ R)
    (hwo : wl ≠ of) (how : ol ≠ wl) (hoo : ol ≠ of) (htw : tl ≠ wl) (hto : tl ≠ of) (hbw : bl ≠ wl) (hbo : bl ≠ of) (hLw : L + 10 < wl) (hLo : L + 10 < of)
    (hm : ∀ p ∈ [(Str.ofString "off", Value.ref of)], m p.1 = some p.2)
    (N : News h₀ L s.heap (cellsL L o ++ R))
    (K : ∀ m' h' tk', Fr h₀ L h' m' → Q (.ret (.bool true)) { s with heap := h', toks := tk' }) :
    wpAny (model PG w) A (execs (lawBody.drop 29) (lawEnv L f cd)) Q (fun _ _ => False) s := by
  have KX := G1.inn
  have hh := G1.hh
  refine cps fun P9 k9 => ?_
  obtain ⟨loose, mean, mg, mb, hloose, T⟩ := G1.top
  refine k9 ?_
  clear k9 P9
  have F' := fr_names _ F hm
  clear F
  dsimp only [kstB_cons, kstB_nil] at F'
  conv => pattern List.drop _ _; whnf
  unfold lawEnv
  conv => pattern lawScope; whnf
  w_on
  w_strict (
  refine wpAny_execs_cons ?_
  k_steps
  (intro stop9; clear stop9)
  refine unord_spec (us := wv) (ws := ofv) (n1 := wk) (n2 := kof) G1 (by assumption) (by assumption) (by walk_at "room") (by walk_at "room") (List.mem_append_right _ hwl) (List.mem_append_right _ hof) hwo hwv hofv (by rw [iz_length, List.length_range']; decide) (by lia) fun TT mi mv rv k1 k2 k3 h2 tk2 F2 N2 hlt2 hmT hmv hrv => ?_
  rw [hmis] at hmv
  rw [hrest] at hrv
  have keepR : ∀ a ob, (a, ob) ∈ R → a ≠ wl → a ≠ of → (a, ob) ∈ (cellsL L o ++ R).filter (fun p => p.1 != wl && p.1 != of) := fun a ob ha h1 h2 => List.mem_filter.mpr ⟨List.mem_append_right _ ha, by simp [h1, h2]⟩
  have N3 : News h₀ L h2 (cellsL L o ++ [(TT, tup [.ref mi, .ref of]), (mi, lst mv k1), (of, lst rv k2), (wl, lst [] k3), (ol, lst ov ok), (tl, lst tv tkk), (bl, lst bv bk)]) := News.sub N2 fun p hp => by
    rcases List.mem_append.mp hp with hp | hp
    · refine List.mem_cons_of_mem _ (List.mem_cons_of_mem _ (List.mem_cons_of_mem _ (List.mem_cons_of_mem _ (List.mem_filter.mpr ⟨List.mem_append_left _ hp, ?_⟩))))
      have z := (cellsL_le p hp).2
      have z1 : p.1 ≠ wl := Nat.ne_of_lt (Nat.lt_of_le_of_lt z hLw)
      have z2 : p.1 ≠ of := Nat.ne_of_lt (Nat.lt_of_le_of_lt z hLo)
      simp [z1, z2]
    · simp only [List.mem_cons, List.not_mem_nil, or_false] at hp
      rcases hp with rfl | rfl | rfl | rfl | rfl | rfl | rfl
      · exact List.mem_cons_self
      · exact List.mem_cons_of_mem _ List.mem_cons_self
      · exact List.mem_cons_of_mem _ (List.mem_cons_of_mem _ List.mem_cons_self)
      · exact List.mem_cons_of_mem _ (List.mem_cons_of_mem _ (List.mem_cons_of_mem _ List.mem_cons_self))
      · exact List.mem_cons_of_mem _ (List.mem_cons_of_mem _ (List.mem_cons_of_mem _ (List.mem_cons_of_mem _ (keepR _ _ hol how hoo))))
      · exact List.mem_cons_of_mem _ (List.mem_cons_of_mem _ (List.mem_cons_of_mem _ (List.mem_cons_of_mem _ (keepR _ _ htl htw hto))))
      · exact List.mem_cons_of_mem _ (List.mem_cons_of_mem _ (List.mem_cons_of_mem _ (List.mem_cons_of_mem _ (keepR _ _ hbl hbw hbo))))
  clear N2
  k_steps
  (intro stop9; clear stop9)
  refine wpAny_execs_cons ?_
  k_steps
  (intro stop9; clear stop9)
  rename_i h5 F5 N5
  refine assign_listcomp_start _ (by with_unfolding_all rfl) (by with_unfolding_all rfl) rfl (by decide) ?_
  k_steps
  have e1 := hov.length
  have e2 := htv.length
  rw [iz_length] at e1 e2
  refine rc_assign (L := L) (n := 12) hh (by assumption) (by assumption) (by assumption) (by decide +kernel) (by decide +kernel) (σ := Unit) (fun _ => cellsL L o ++ [(TT, tup [.ref mi, .ref of]), (mi, lst mv k1), (of, lst rv k2), (wl, lst [] k3), (ol, lst ov ok), (tl, lst tv tkk), (bl, lst bv bk)]) (fun i _ ys => i ≤ 12 ∧ IntsAre ys ((((List.range 12).map fun k => (low : Int) + 11 - (k : Nat)).take i).filter (fun z => !((iz W1 ++ iz W2).any (· == z))))) () (fun p hp => hp) (fun _ _ _ _ p hp => ⟨p, hp, rfl⟩) ⟨Nat.zero_le _, IntsAre.nil⟩ ?_ (by decide) rfl rfl rfl rfl rfl ?_ ?_
  · rintro i c ys ⟨h9, hys⟩
    rw [hys.length]
    exact Nat.le_trans (List.length_filter_le _ _) (by rw [List.length_take, List.length_map, List.length_range]; lia)
  · rintro i c ys v h tk C oC mC X hi ⟨tv', rfl⟩ ⟨h9, hys⟩ hO hmx hX F6 N6
    rw [show (0 : Int) + (i : Nat) = ((i : Nat) : Int) by lia] at hmx
    dsimp only at N6
    have hi2 : i < ((List.range 12).map fun k => (low : Int) + 11 - (k : Nat)).length := by rw [List.length_map, List.length_range]; exact hi
    have ev : ((List.range 12).map fun k => (low : Int) + 11 - (k : Nat))[i] = (low : Int) + 11 - (i : Nat) := by simp
    refine wpAny_tests_one ?_
    k_steps
    · rename_i D9 ws9 h9' F9 N9 l9 hI9 _ _ e9
      refine c_end () F9 N9 (fun p hp => List.mem_cons_of_mem _ hp) ⟨hi, ?_⟩
      rw [filt_comp hi2, ev, if_neg (by simp only [e9]; decide), List.append_nil]
      exact hys
    · rename_i D9 ws9 h9' F9 N9 l9 hI9 _ _ e9
      refine c_end () F9 N9 (fun p hp => List.mem_cons_of_mem _ hp) ⟨hi, ?_⟩
      rw [filt_comp hi2, ev, if_pos (by simp only [e9]; decide)]
      exact ints_snoc hys
  · rintro du c ys h tk k ⟨_, hys⟩ F6 N6 hlt6
    rw [List.take_of_length_le (by rw [List.length_map, List.length_range]; exact Nat.le_refl _)] at hys
    dsimp only at N6 ⊢
    refine wpAny_execs_cons ?_
    k_steps
    (intro stop9; clear stop9)
    refine eq_ints (vs := mv) (ws := ys) (n := k1) (n2 := k) N6 (by walk_at "member") List.mem_cons_self hmv hys (by lia) ?_
    k_steps
    (intro stop9; clear stop9)
    refine eq_ints (vs := rv) (ws := bv) (n := k2) (n2 := bk) N6 (by walk_at "member") (by walk_at "member") (by assumption) hbv (by lia) ?_
    k_steps
    (intro stop9; clear stop9)
    rename_i l7 h7 F7 N7 hl7
    refine eq_ints (vs := []) (ws := []) (n := k3) (n2 := 0) N7 (by walk_at "member") List.mem_cons_self IntsAre.nil IntsAre.nil (by lia) ?_
    k_steps
    exact K _ _ _ F7)
end
theorem range_len (low : Nat) : (List.range' low 12).length = 12 := List.length_range'
theorem filt_len (low : Nat) (f : Nat → Bool) : ((List.range' low 12).filter f).length ≤ 12 := by rw [← range_len low]; exact List.length_filter_le _ _
theorem any_contains {Y : List Int} {z : Int} : Y.contains z = Y.any (· == z) := by
  rw [Bool.eq_iff_iff, List.contains_iff_mem, List.any_eq_true]
  constructor
  · intro h; exact ⟨z, h, by simp⟩
  · rintro ⟨x, hx, e⟩
    have : x = z := by simpa using e
    rw [← this]; exact hx
set_option maxRecDepth 100000 in
set_option maxHeartbeats 4000000 in
theorem law_all {w : World} {A : Around} {h₀ : Heap} {L f sl : Addr} {cd : Value} {s : Shared} {m : Str → Option Value} {us : List Value} {ns : List Int} {o : Nat → Obj} {Q : Flow → Shared → Prop}
    (G : Sit w A h₀ L) (G1 : Sit1 w A h₀ L (lawEnv L f cd)) (F : Fr h₀ L s.heap m) (N : News h₀ L s.heap (cellsL L o ++ [])) (hd : A.depth + 16 < recursionLimit) (hu : A.units + 128 < cLine) (hm : m (Str.ofString "script") = some (.ref sl))
    (hs : h₀.IsList sl us.toArray) (hI : IntsAre us ns) (hn : ns.length ≤ 63) (hd1 : ∀ i, 1 ≤ i → i ≤ 10 → (o i).data = .cell none)
    (hQ : ∀ m' h' tk', Fr h₀ L h' m' → Q (.ret (.bool true)) { s with heap := h', toks := tk' }) :
    wpAny (model PG w) A (execs (lawBody.drop 0) (lawEnv L f cd)) Q (fun _ _ => False) s := by
  refine law_1 G1 F N hm hs hI hn hd1 fun D ys k n t o1 m1 h1 tk1 hn1 hys hc1 ho1 hDL hmd F1 N1 => ?_
  refine law_2 G G1 F1 (by walk_at "room") (by walk_at "room") hmd N1 hDL hys (drawOf_len hn) (drawOf_lt ns) hn1 hc1 (by rw [ho1 2 (by decide)]; exact hd1 2 (by decide) (by decide)) (by rw [ho1 3 (by decide)]; exact hd1 3 (by decide) (by decide)) (by rw [ho1 4 (by decide)]; exact hd1 4 (by decide) (by decide))
    fun st lf lv lk wl wv wk tm to ta t2 t4 o2 m2 h2 tk2 hst hlv hwv hc1' hc2 hc3 hc4 ho2 hLf hfw hmm hmo hml hma F2 N2 => ?_
  have none2 : ∀ i, 5 ≤ i → i ≤ 10 → (o2 i).data = .cell none := fun i h1 h2 => by rw [ho2 i h1, ho1 i (by lia)]; exact hd1 i (by lia) h2
  refine law_3 G G1 F2 (by walk_at "room") (by walk_at "room") hn1 hst hlv hwv hc1' hc2 hc3 hc4 (none2 5 (by decide) (by decide)) (none2 6 (by decide) (by decide)) (none2 7 (by decide) (by decide)) hLf hfw
    (List.forall_mem_cons.mpr ⟨hmm, List.forall_mem_cons.mpr ⟨hmo, List.forall_mem_cons.mpr ⟨hml, List.forall_mem_cons.mpr ⟨hma, fun _ h => nomatch h⟩⟩⟩⟩) N2
    fun dr dv dk ol ov ok tl tv tk bl bv bk o3 m3 h3 tk3 hdv hov htv hbv hwv' hc23 hc33 hc53 hc63 hc73 ho3 hLw hwd hdo hot htb hm1 hm2 hm3 F3 N3 => ?_
  have none3 : ∀ i, 8 ≤ i → i ≤ 10 → (o3 i).data = .cell none := fun i h1 h2 => by rw [ho3 i h1]; exact none2 i (by lia) h2
  have hlow := lowOf_lt (ds := drawOf ns) hn1
  have hmk := mkOf_lt (drawOf ns)
  have hotl := otOf_lt (drawOf ns)
  generalize lowOf (drawOf ns) n = low at hlow hdv hov htv hbv hwv' hc23
  generalize mkOf (drawOf ns) = mk at hmk hov hbv hm1
  generalize otOf (drawOf ns) = ot at hotl htv hbv hm2
  generalize hR0 : [(bl, lst bv bk), (tl, lst tv tk), (ol, lst ov ok), (dr, lst dv dk), (wl, lst wv wk)] = R0 at N3
  have mbl : (bl, lst bv bk) ∈ R0 := by rw [← hR0]; exact List.mem_cons_self
  have mtl : (tl, lst tv tk) ∈ R0 := by rw [← hR0]; exact List.mem_cons_of_mem _ List.mem_cons_self
  have mol : (ol, lst ov ok) ∈ R0 := by rw [← hR0]; exact List.mem_cons_of_mem _ (List.mem_cons_of_mem _ List.mem_cons_self)
  have mdr : (dr, lst dv dk) ∈ R0 := by rw [← hR0]; exact List.mem_cons_of_mem _ (List.mem_cons_of_mem _ (List.mem_cons_of_mem _ List.mem_cons_self))
  have mwl : (wl, lst wv wk) ∈ R0 := by rw [← hR0]; exact List.mem_cons_of_mem _ (List.mem_cons_of_mem _ (List.mem_cons_of_mem _ (List.mem_cons_of_mem _ List.mem_cons_self)))
  have hLd : L + 10 < dr := Nat.lt_trans hLw hwd
  have hLo : L + 10 < ol := Nat.lt_trans hLd hdo
  have hLt : L + 10 < tl := Nat.lt_trans hLo hot
  have hLb : L + 10 < bl := Nat.lt_trans hLt htb
  have hobR : ∀ p ∈ R0, L + 10 < p.1 := by
    rw [← hR0]
    exact List.forall_mem_cons.mpr ⟨hLb, List.forall_mem_cons.mpr ⟨hLt, List.forall_mem_cons.mpr ⟨hLo, List.forall_mem_cons.mpr ⟨hLd, List.forall_mem_cons.mpr ⟨hLw, fun _ h => nomatch h⟩⟩⟩⟩⟩
  clear hR0
  have hWl := range_len low
  have hW8 : ∀ p ∈ List.range' low 12, p < 100000000 := fun p hp => by have := (List.mem_range'_1.mp hp).2; lia
  have hWs : (List.range' low 12).Pairwise (· < ·) := List.pairwise_lt_range' ..
  refine law_4 (W := List.range' low 12) G G1 F3 hd hu hmk (drawn_perm hst) hWl hW8 hWs hdv hov hc53 (none3 8 (by decide) (by decide)) hobR mdr mol
    (List.forall_mem_cons.mpr ⟨hm1, List.forall_mem_cons.mpr ⟨hm3, List.forall_mem_cons.mpr ⟨hm2, fun _ h => nomatch h⟩⟩⟩) N3
    fun th us1 out fs fl kf kz o4 m4 h4 tk4 hk4 hok4 hc84 ho4 hRf hLfl hfls hmf4 hmd4 hmo4 F4 N4 => ?_
  have hob4 : ∀ i : Nat, 9 ≤ i → i ≤ 10 → ∀ p ∈ (fs, lst (fsts out) kf) :: (fl, lst [] kz) :: (us1.map (ansObj (Str.ofString "h1") th) ++ R0), p.1 ≠ L + i := fun i i1 i2 p hp => by
    have hle : ∀ {a : Addr}, L + 10 < a → a ≠ L + i := fun h => Nat.ne_of_gt (Nat.lt_of_le_of_lt (Nat.add_le_add_left i2 _) h)
    rcases List.mem_cons.mp hp with rfl | hp
    · exact hle (Nat.lt_trans hLfl hfls)
    rcases List.mem_cons.mp hp with rfl | hp
    · exact hle hLfl
    rcases List.mem_append.mp hp with hp | hp
    · exact ans_neC N4 (oc := o4 i) (v := none) (List.mem_append_left _ (cellsL_mem (by lia) i2)) (by rw [ho4 i (by lia)]; exact none3 i (by lia) i2) p hp (List.mem_append_right _ (List.mem_cons_of_mem _ (List.mem_cons_of_mem _ (List.mem_append_left _ hp))))
    · exact hle (hobR p hp)
  generalize hR1 : (fs, lst (fsts out) kf) :: (fl, lst [] kz) :: (us1.map (ansObj (Str.ofString "h1") th) ++ R0) = R1 at N4 hob4
  have mfs : (fs, lst (fsts out) kf) ∈ R1 := by rw [← hR1]; exact List.mem_cons_self
  have mfl : (fl, lst [] kz) ∈ R1 := by rw [← hR1]; exact List.mem_cons_of_mem _ List.mem_cons_self
  have mus : ∀ p ∈ us1.map (ansObj (Str.ofString "h1") th), p ∈ R1 := fun p hp => by rw [← hR1]; exact List.mem_cons_of_mem _ (List.mem_cons_of_mem _ (List.mem_append_left _ hp))
  have m01 : ∀ p ∈ R0, p ∈ R1 := fun p hp => by rw [← hR1]; exact List.mem_cons_of_mem _ (List.mem_cons_of_mem _ (List.mem_append_right _ hp))
  clear hR1
  have eqc4 : ∀ j, j ≠ 8 → o4 j = o3 j := ho4
  refine law_5 (W := List.range' low 12) G G1 F4 hd hu hotl (drawn_perm hst) hWl hW8 hWs hdv htv (by rw [ho4 6 (by decide)]; exact hc63) (by rw [ho4 9 (by decide)]; exact none3 9 (by decide) (by decide)) (hob4 9 (by decide) (by decide)) (m01 _ mdr) (m01 _ mtl)
    (List.forall_mem_cons.mpr ⟨hmo4, List.forall_mem_cons.mpr ⟨hmd4, List.forall_mem_cons.mpr ⟨hmf4, fun _ h => nomatch h⟩⟩⟩) N4
    fun th2 us2 out2 ss sl2 kf2 kz2 o5 m5 h5 tk5 hk5 hok5 hc95 ho5 hR1s hLs hsls hms5 hmf5 F5 N5 => ?_
  have hob5 : ∀ p ∈ (ss, lst (fsts out2) kf2) :: (sl2, lst [] kz2) :: (us2.map (ansObj (Str.ofString "h2") th2) ++ R1), p.1 ≠ L + 10 := all_cons (Nat.ne_of_gt (Nat.lt_trans hLs hsls)) (all_cons (Nat.ne_of_gt hLs) (all_app (fun p hp => ans_neC N5 (oc := o5 10) (v := none) (List.mem_append_left _ (cellsL_mem (by decide) (by decide))) (by rw [ho5 10 (by decide), ho4 10 (by decide)]; exact none3 10 (by decide) (by decide)) p hp (List.mem_append_right _ (List.mem_cons_of_mem _ (List.mem_cons_of_mem _ (List.mem_append_left _ hp))))) (fun p hp => hob4 10 (by decide) (by decide) p hp)))
  generalize hR2 : (ss, lst (fsts out2) kf2) :: (sl2, lst [] kz2) :: (us2.map (ansObj (Str.ofString "h2") th2) ++ R1) = R2 at N5 hob5
  have mss : (ss, lst (fsts out2) kf2) ∈ R2 := by rw [← hR2]; exact List.mem_cons_self
  have msl : (sl2, lst [] kz2) ∈ R2 := by rw [← hR2]; exact List.mem_cons_of_mem _ List.mem_cons_self
  have mus2 : ∀ p ∈ us2.map (ansObj (Str.ofString "h2") th2), p ∈ R2 := fun p hp => by rw [← hR2]; exact List.mem_cons_of_mem _ (List.mem_cons_of_mem _ (List.mem_append_left _ hp))
  have m12 : ∀ p ∈ R1, p ∈ R2 := fun p hp => by rw [← hR2]; exact List.mem_cons_of_mem _ (List.mem_cons_of_mem _ (List.mem_append_right _ hp))
  have m02 : ∀ p ∈ R0, p ∈ R2 := fun p hp => m12 p (m01 p hp)
  clear hR2
  have hW1l := filt_len low (g mk)
  have hW2l := filt_len low (g ot)
  have c5 : (o5 5).data = .cell (some (.ref ol)) := by rw [ho5 5 (by decide), ho4 5 (by decide)]; exact hc53
  have c6 : (o5 6).data = .cell (some (.ref tl)) := by rw [ho5 6 (by decide), ho4 6 (by decide)]; exact hc63
  have c7 : (o5 7).data = .cell (some (.ref bl)) := by rw [ho5 7 (by decide), ho4 7 (by decide)]; exact hc73
  have c8 : (o5 8).data = .cell (some (.ref fl)) := by rw [ho5 8 (by decide)]; exact hc84
  have c2 : (o5 2).data = .cell (some (.int (low : Nat) t2)) := by rw [ho5 2 (by decide), ho4 2 (by decide)]; exact hc23
  have c3 : (o5 3).data = .cell (some (.ref wl)) := by rw [ho5 3 (by decide), ho4 3 (by decide)]; exact hc33
  have c10 : (o5 10).data = .cell none := by rw [ho5 10 (by decide), ho4 10 (by decide)]; exact none3 10 (by decide) (by decide)
  refine law_6 (W := (List.range' low 12).filter (g mk)) (us := us1) (th := th) G1 F5 hd hu hov hW1l hk4 hok4 c5 c8 (m02 _ mol) (m12 _ mfl) (m12 _ mfs) (fun p hp => m12 p (mus p hp)) (List.forall_mem_cons.mpr ⟨hmf5, fun _ h => nomatch h⟩) N5 fun h6 tk6 F6 N6 => ?_
  refine law_7 (W := (List.range' low 12).filter (g ot)) (us := us2) (th := th2) G1 F6 hd hu htv hW2l hk5 hok5 c6 hc95 (m02 _ mtl) msl mss mus2 (List.forall_mem_cons.mpr ⟨hms5, fun _ h => nomatch h⟩) N6 fun h7 tk7 F7 N7 => ?_
  have hlt1 : ∀ p ∈ (List.range' low 12).filter (g mk), p < low + 12 := fun p hp => (List.mem_range'_1.mp (List.mem_filter.mp hp).1).2
  have hlt2 : ∀ p ∈ (List.range' low 12).filter (g ot), p < low + 12 := fun p hp => (List.mem_range'_1.mp (List.mem_filter.mp hp).1).2
  refine law_8 (us := us1) (us2 := us2) (th := th) (th2 := th2) G G1 F7 hd hu hlow hW1l hW2l hlt1 hlt2 hk4 hok4 hk5 hok5 c2 c10 hob5 (m12 _ mfs) mss (fun p hp => m12 p (mus p hp)) mus2 (List.forall_mem_cons.mpr ⟨hmf5, List.forall_mem_cons.mpr ⟨hms5, fun _ h => nomatch h⟩⟩) N7
    fun of o9 kof hl zs kh o8 m8 h8 tk8 hp8 hs8 hok8 hz8 hzk8 hc108 ho8 hRh hLh hho hmof F8 N8 => ?_
  generalize hR3 : (of, lst (fsts o9) kof) :: (hl, lst (fsts zs) kh) :: R2 = R3 at N8
  have mof : (of, lst (fsts o9) kof) ∈ R3 := by rw [← hR3]; exact List.mem_cons_self
  have mhl : (hl, lst (fsts zs) kh) ∈ R3 := by rw [← hR3]; exact List.mem_cons_of_mem _ List.mem_cons_self
  have m03 : ∀ p ∈ R0, p ∈ R3 := fun p hp => by rw [← hR3]; exact List.mem_cons_of_mem _ (List.mem_cons_of_mem _ (m02 p hp))
  have h0of : ∀ p ∈ R0, p.1 < of := fun p hp => Nat.lt_trans (hRh p (m02 p hp)) hho
  clear hR3
  have d2 : (o8 2).data = .cell (some (.int (low : Nat) t2)) := by rw [ho8 2 (by decide)]; exact c2
  have d3 : (o8 3).data = .cell (some (.ref wl)) := by rw [ho8 3 (by decide)]; exact c3
  have d5 : (o8 5).data = .cell (some (.ref ol)) := by rw [ho8 5 (by decide)]; exact c5
  have d6 : (o8 6).data = .cell (some (.ref tl)) := by rw [ho8 6 (by decide)]; exact c6
  have d7 : (o8 7).data = .cell (some (.ref bl)) := by rw [ho8 7 (by decide)]; exact c7
  have hofv := ints_ok hok8
  have hzv := ints_ok hzk8
  rw [hz8] at hzv
  refine law_9 (W1 := (List.range' low 12).filter (g mk)) (W2 := (List.range' low 12).filter (g ot)) G1 F8 hd hu hW1l hW2l hov htv hzv hofv hp8 hs8 d2 d5 d6 hc108 (m03 _ mol) (m03 _ mtl) mhl mof (List.forall_mem_cons.mpr ⟨hmof, fun _ h => nomatch h⟩) N8 fun h9 tk9 F9 N9 => ?_
  have hs1 := hWs.filter (g mk)
  have hs2 := hWs.filter (g ot)
  refine law_10 (W1 := (List.range' low 12).filter (g mk)) (W2 := (List.range' low 12).filter (g ot)) G G1 F9 hd hu hW1l hW2l hs1 hs2 hov htv d5 d6 (m03 _ mol) (m03 _ mtl) (List.forall_mem_cons.mpr ⟨hmof, fun _ h => nomatch h⟩) N9
    fun mi un mv uv k1 k2 m10 h10 tk10 hmv huv hRm hmu hmo10 hml10 hms10 F10 N10 => ?_
  generalize hR4 : (mi, lst mv k1) :: (un, lst uv k2) :: R3 = R4 at N10
  have mmi : (mi, lst mv k1) ∈ R4 := by rw [← hR4]; exact List.mem_cons_self
  have mun : (un, lst uv k2) ∈ R4 := by rw [← hR4]; exact List.mem_cons_of_mem _ List.mem_cons_self
  have m34 : ∀ p ∈ R3, p ∈ R4 := fun p hp => by rw [← hR4]; exact List.mem_cons_of_mem _ (List.mem_cons_of_mem _ hp)
  have m04 : ∀ p ∈ R0, p ∈ R4 := fun p hp => m34 p (m03 p hp)
  clear hR4
  refine law_11 (W1 := (List.range' low 12).filter (g mk)) (W2 := (List.range' low 12).filter (g ot)) (WB := (List.range' low 12).filter fun p => g mk p && g ot p) G1 F10 hd hu hW1l hW2l hov htv hbv ?_ ?_ hmv huv d5 d6 d7 (m04 _ mol) (m04 _ mtl) (m04 _ mbl) mmi mun (List.forall_mem_cons.mpr ⟨hml10, List.forall_mem_cons.mpr ⟨hms10, fun _ h => nomatch h⟩⟩) N10 fun h11 tk11 F11 N11 => ?_
  · intro p hp
    have h9 := List.mem_filter.mp hp
    rw [Bool.eq_iff_iff, List.contains_iff_mem, List.contains_iff_mem, List.mem_filter, List.mem_filter, h9.2]
    simp
  · intro p hp
    have h9 := List.mem_filter.mp hp
    rw [Bool.eq_iff_iff, List.contains_iff_mem, List.contains_iff_mem, List.mem_filter, List.mem_filter, h9.2]
    simp
  refine law_12 (W1 := (List.range' low 12).filter (g mk)) (W2 := (List.range' low 12).filter (g ot)) (WB := (List.range' low 12).filter fun p => g mk p && g ot p) G1 F11 hd hu hW1l hs1 hov hbv hmv ?_ d5 d7 (m04 _ mol) (m04 _ mbl) mmi (List.forall_mem_cons.mpr ⟨hml10, fun _ h => nomatch h⟩) N11 fun h12 tk12 F12 N12 => ?_
  · rw [List.filter_filter]
    refine List.filter_congr fun p hp => ?_
    rw [Bool.eq_iff_iff]
    simp only [Bool.and_eq_true, List.contains_iff_mem, List.mem_filter]
    constructor
    · rintro ⟨a, b⟩; exact ⟨⟨hp, b⟩, a⟩
    · rintro ⟨⟨_, b⟩, a⟩; exact ⟨a, b⟩
  have hV := iz_strict hWs
  refine law_13 (W1 := (List.range' low 12).filter (g mk)) (W2 := (List.range' low 12).filter (g ot)) (WB := (List.range' low 12).filter fun p => g mk p && g ot p) (xs := keys o9) G G1 F12 hd hu hlow hW1l hW2l hov htv hbv hwv' hofv ?_ ?_ ?_ d2 d3 d5 d6 d7 (m04 _ mol) (m04 _ mtl) (m04 _ mbl) (m04 _ mwl) (m34 _ mof)
    (Nat.ne_of_lt (h0of _ mwl)) (Nat.ne_of_gt (Nat.lt_trans hwd hdo)) (Nat.ne_of_lt (h0of _ mol)) (Nat.ne_of_gt (Nat.lt_trans (Nat.lt_trans hwd hdo) hot)) (Nat.ne_of_lt (h0of _ mtl)) (Nat.ne_of_gt (Nat.lt_trans (Nat.lt_trans (Nat.lt_trans hwd hdo) hot) htb)) (Nat.ne_of_lt (h0of _ mbl)) hLw (Nat.lt_trans hLw (h0of _ mwl)) (List.forall_mem_cons.mpr ⟨hmo10, fun _ h => nomatch h⟩) N12 fun m13 h13 tk13 F13 => hQ m13 h13 tk13 F13
  · have := hp8.length_eq
    rw [List.length_append, iz_length, iz_length] at this
    lia
  · have := rest_eq (V := iz (List.range' low 12)) (xs := keys o9) (f1 := fun z => g mk z.toNat) (f2 := fun z => g ot z.toNat) hV (by rw [iz_filter, iz_filter]; exact hp8) hs8
    rw [this]
    exact iz_filter (p := fun p => g mk p && g ot p)
  · rw [due_eq (Y := iz ((List.range' low 12).filter (g mk)) ++ iz ((List.range' low 12).filter (g ot))) fun z => ?_]
    · exact List.filter_congr fun z _ => by rw [any_contains]
    · rw [Bool.eq_iff_iff, List.contains_iff_mem, List.contains_iff_mem, hp8.mem_iff, List.mem_append, List.mem_append]
      exact or_comm
section
local macro_rules | `(tactic| cells_open $x:ident) => `(tactic| (obtain ⟨_, he, _⟩ := kc_law $x; subst he))
set_option maxRecDepth 100000 in
set_option maxHeartbeats 8000000 in
theorem holds : PySem.Challenge.rw_om0037_01.Holds := Mine.hd (by
  w_on
  w_strict (
  k_go0
  rename_i w s₀ s₁ mg mb G0 Y fa oo pm doc ho hg KX X V GL T B TE TW _ _ M cda _ hcd ns hsh _ hlay _ _ _ _ sl us _ hsl _ _ _ hI _ hlen _ K0 hD h1 tk1 F1 o c N1 X1
  refine wpAny_noRaise ?_
  clear X1
  refine law_all (L := s₁.heap.objs.size) (f := fa) (cd := .ref cda) (sl := sl) (us := us) (ns := ns) (o := o)
    ⟨rfl, ⟨callerA, s₁.heap, [], _, _, _, mg, mb, K0, Around.frames_deeper rfl, rfl, rfl, KX, T⟩⟩ ⟨rfl, Around.frames_deeper rfl, rfl, rfl, KX, ⟨_, _, mg, mb, rfl, T⟩⟩ F1 N1 (by rw [depth_deeper]; decide) (by rw [units_deeper]; decide) (by with_unfolding_all rfl) hsl hI (by lia) ?_ ?_
  · intro i h1 h2
    exact (c i ((by decide : ∀ i : Fin 11, 1 ≤ i.val → i.val ∈ [10, 9, 8, 7, 6, 5, 4, 3, 2, 1]) ⟨i, Nat.lt_succ_of_le h2⟩ h1)).trans (by with_unfolding_all rfl)
  · intro m' h' tk' F'
    clear F1 N1
    dsimp only
    k_steps))
end

end Mine
theorem PySem.Challenge.cw_om0037_01_holds : PySem.Challenge.rw_om0037_01.Holds :=
  Mine.holds
